import JvmDerived
import JvmDerived.Pilot.@@N@@Statement
import JvmDerived.Pilot.@@N@@Code
set_option linter.unusedVariables false
set_option linter.unusedSimpArgs false
namespace Jvm.RoadKit
open Sem ClassFile Op Lib Jvm.Stand Jvm.Free Jvm.LawKit
section New
variable {p : Program} {l : Launch} {e : Env} {R : Room} {s : State} {m : MethodId} {args : Array Value} {below : List Frame} {meth : Method} {c : Code} {T : State} {locs : List Loc} {cells slots : Nat}
theorem retI (X : Stand p l e R s m args below meth c T locs cells slots) (hx : p.tables.exec = Jvm.exec) {pc : Nat} {Ls : Array Slot} {z : Int32} {rest : List Value} (hret : meth.sig.returnType = some .int) (hd : decode c.code pc = .ok (.ireturn, 1)) {fs : List Frame}
    (hl : ∀ (f : JFrame) (acts : List Action), f.method = m → f.locked = none → f.entered = [] → (doReturn e (T.setTop f) acts (some (.int z))).1 = T.setFrames fs) : Steps p.tables e below (T.setTop (mkF m pc Ls (.int z :: rest))) (T.setFrames fs) := by
  have hm' : T.vm.method? m = some meth := X.method'
  have hn : narrow .int (.int z) = .int z := rfl
  show Steps p.tables e below (T.setTop { method := m, pc := pc, locals := Ls, stack := _ :: rest, locked := none }) _
  jvm_step X.here [X.here.top, hx, hd, hm', hret, hn]
  first | (intro acts; rw [hl _ acts rfl rfl rfl]) | rw [hl _ _ rfl rfl rfl]
  exact Steps.refl _
theorem retJ (X : Stand p l e R s m args below meth c T locs cells slots) (hx : p.tables.exec = Jvm.exec) {pc : Nat} {Ls : Array Slot} {z : Int64} {rest : List Value} (hret : meth.sig.returnType = some .long) (hd : decode c.code pc = .ok (.lreturn, 1)) {fs : List Frame}
    (hl : ∀ (f : JFrame) (acts : List Action), f.method = m → f.locked = none → f.entered = [] → (doReturn e (T.setTop f) acts (some (.long z))).1 = T.setFrames fs) : Steps p.tables e below (T.setTop (mkF m pc Ls (.long z :: rest))) (T.setFrames fs) := by
  have hm' : T.vm.method? m = some meth := X.method'
  have hn : narrow .long (.long z) = .long z := rfl
  show Steps p.tables e below (T.setTop { method := m, pc := pc, locals := Ls, stack := _ :: rest, locked := none }) _
  jvm_step X.here [X.here.top, hx, hd, hm', hret, hn]
  first | (intro acts; rw [hl _ acts rfl rfl rfl]) | rw [hl _ _ rfl rfl rfl]
  exact Steps.refl _
theorem retD (X : Stand p l e R s m args below meth c T locs cells slots) (hx : p.tables.exec = Jvm.exec) {pc : Nat} {Ls : Array Slot} {z : UInt64} {rest : List Value} (hret : meth.sig.returnType = some .double) (hd : decode c.code pc = .ok (.dreturn, 1)) {fs : List Frame}
    (hl : ∀ (f : JFrame) (acts : List Action), f.method = m → f.locked = none → f.entered = [] → (doReturn e (T.setTop f) acts (some (.double z))).1 = T.setFrames fs) : Steps p.tables e below (T.setTop (mkF m pc Ls (.double z :: rest))) (T.setFrames fs) := by
  have hm' : T.vm.method? m = some meth := X.method'
  have hn : narrow .double (.double z) = .double z := rfl
  show Steps p.tables e below (T.setTop { method := m, pc := pc, locals := Ls, stack := _ :: rest, locked := none }) _
  jvm_step X.here [X.here.top, hx, hd, hm', hret, hn]
  first | (intro acts; rw [hl _ acts rfl rfl rfl]) | rw [hl _ _ rfl rfl rfl]
  exact Steps.refl _
theorem retR (X : Stand p l e R s m args below meth c T locs cells slots) (hx : p.tables.exec = Jvm.exec) {pc : Nat} {Ls : Array Slot} {w : Value} {t : FieldType} {rest : List Value} (hret : meth.sig.returnType = some t) (hn : narrow t w = w) (ht : t.isReference = true) (hw : w.isRef = true) (hd : decode c.code pc = .ok (.areturn, 1)) {fs : List Frame}
    (hl : ∀ (f : JFrame) (acts : List Action), f.method = m → f.locked = none → f.entered = [] → (doReturn e (T.setTop f) acts (some w)).1 = T.setFrames fs) : Steps p.tables e below (T.setTop (mkF m pc Ls (w :: rest))) (T.setFrames fs) := by
  have hm' : T.vm.method? m = some meth := X.method'
  show Steps p.tables e below (T.setTop { method := m, pc := pc, locals := Ls, stack := _ :: rest, locked := none }) _
  jvm_step X.here [X.here.top, hx, hd, hm', hret, hn, hw]
  try (refine ⟨ht, ?_⟩)
  first | (intro acts; rw [hl _ acts rfl rfl rfl]) | rw [hl _ _ rfl rfl rfl]
  exact Steps.refl _
theorem own_up (X : Stand p l e R s m args below meth c T locs cells slots) {k n : Nat} (h1 : cells ≤ k) (h2 : slots ≤ n) : Stand p l e R s m args below meth c T locs k n :=
  ⟨X.admits, X.cas, X.clock, X.frames, X.room, X.hears, X.method, X.code, X.here, X.tail, X.warmed, X.limits, X.bytes, X.same.mono h1 h2⟩
theorem own_ext {h h' : Heap} (K : Keep h h' []) : Ext h h' := ⟨K.1, fun a c q => K.2.1 a c q nin0⟩
theorem own_narR {v : Value} {ty : FieldType} (h : v.isRef = true) (ht : ty.isReference = true) : narrow ty v = v := by
  rcases ref_cases h with rfl | ⟨a, rfl⟩ <;> cases ty <;> first | rfl | (simp [FieldType.isReference] at ht)
theorem own_fitR {v : Value} {ty : FieldType} (h : v.isRef = true) (ht : ty.isReference = true) : fits ty v = true := by
  rcases ref_cases h with rfl | ⟨a, rfl⟩ <;> cases ty <;> first | rfl | (simp [FieldType.isReference] at ht)
theorem own_wmono {s t : State} {o : Outcome} {L : List Loc} {k n k' n' : Nat} (h : ReturnedEndW s o t L k n) (hk : k ≤ k') (hn : n ≤ n') : ReturnedEndW s o t L k' n' := ⟨h.1, h.2.1, h.2.2.1, h.2.2.2.mono hk hn⟩
theorem own_chr {Z s T : State} {EL : List (String × Nat)} {h0 H : Heap} (hh : s.heap = h0) (e : T.heap = H) (c : CHr Z EL s.vm h0 T.vm H) : CHr Z EL s.vm s.heap T.vm T.heap := by subst hh e; exact c
theorem own_nb0 : nar .boolean 0 = 0 := by decide
theorem own_nb1 : nar .boolean 1 = 1 := by decide
end New
end Jvm.RoadKit
namespace Jvm.Pilot.@@N@@
open Jvm Jvm.ClassFile Sem Op Lib Jvm.Free Jvm.Stand Jvm.LawKit Jvm.RoadKit Bundle Jvm.Pilot.@@N@@.Jvm.D
theorem and255_chars (x : Int32) : ¬ nar .char ((x &&& (255 : Int32)).toUInt32.toUInt16.toUInt32.toInt32) < 0 ∧ ¬ (255 : Int32) < nar .char ((x &&& (255 : Int32)).toUInt32.toUInt16.toUInt32.toInt32) := by
  have t : ∀ k : Fin 256, ¬ nar .char ((Int32.ofNat k.val).toUInt32.toUInt16.toUInt32.toInt32) < 0 ∧ ¬ (255 : Int32) < nar .char ((Int32.ofNat k.val).toUInt32.toUInt16.toUInt32.toInt32) := by decide +kernel
  have h : (x &&& 255).toBitVec.toNat < 256 := by
    simp only [Int32.toBitVec_and, BitVec.toNat_and]
    exact Nat.lt_succ_of_le Nat.and_le_right
  have e : (x &&& 255) = Int32.ofNat (x &&& 255).toBitVec.toNat := by
    apply Int32.toBitVec_inj.mp
    show _ = BitVec.ofNat 32 _
    rw [BitVec.ofNat_toNat]; simp
  rw [e]
  exact t ⟨_, h⟩
theorem up (cs : List Int32) (h : ∀ c ∈ cs, ¬ c < 0 ∧ ¬ (255 : Int32) < c) : ∀ c ∈ cs, ¬ c < 0 ∧ ¬ (65535 : Int32) < c := fun c hc => ⟨(h c hc).1, fun q => (h c hc).2 (by rw [Int32.lt_iff_toInt_lt] at q ⊢; have e1 : (65535 : Int32).toInt = 65535 := rfl; have e2 : (255 : Int32).toInt = 255 := rfl; omega)⟩
theorem own_pd0 : parseMethodDescriptor "([J[JJJ)V" = some ⟨[(.array .long), (.array .long), .long, .long], none⟩ := by decide +kernel
theorem own_pd1 : parseMethodDescriptor "(II)I" = some ⟨[.int, .int], some .int⟩ := by decide +kernel
theorem own_pd2 : parseMethodDescriptor "([JII)V" = some ⟨[(.array .long), .int, .int], none⟩ := by decide +kernel
theorem own_pd3 : parseMethodDescriptor "(Ljava/util/DualPivotQuicksort$Sorter;[JIII)V" = some ⟨[(.object "java/util/DualPivotQuicksort$Sorter"), (.array .long), .int, .int, .int], none⟩ := by decide +kernel
theorem own_pd4 : parseMethodDescriptor "([JIII)V" = some ⟨[(.array .long), .int, .int, .int], none⟩ := by decide +kernel
theorem own_pd5 : parseMethodDescriptor "(J)J" = some ⟨[.long], some .long⟩ := by decide +kernel
theorem own_pd6 : parseMethodDescriptor "()V" = some ⟨[], none⟩ := by decide +kernel
theorem own_pd7 : parseMethodDescriptor "(JJ)J" = some ⟨[.long, .long], some .long⟩ := by decide +kernel
theorem own_pd8 : parseMethodDescriptor "([JI)[J" = some ⟨[(.array .long), .int], some (.array .long)⟩ := by decide +kernel
theorem own_pd9 : parseMethodDescriptor "([J)V" = some ⟨[(.array .long)], none⟩ := by decide +kernel
theorem own_pd10 : parseMethodDescriptor "([JI)J" = some ⟨[(.array .long), .int], some .long⟩ := by decide +kernel
theorem own_pd11 : parseMethodDescriptor "(JJJJJJD)V" = some ⟨[.long, .long, .long, .long, .long, .long, .double], none⟩ := by decide +kernel
theorem own_pd12 : parseMethodDescriptor "(JJZ)V" = some ⟨[.long, .long, .boolean], none⟩ := by decide +kernel
theorem own_pd13 : parseMethodDescriptor "()Lcom/example/nosy_pool/nosypool/CheckoutStatistics;" = some ⟨[], some (.object "com/example/nosy_pool/nosypool/CheckoutStatistics")⟩ := by decide +kernel
theorem own_pd14 : parseMethodDescriptor "()J" = some ⟨[], some .long⟩ := by decide +kernel
theorem own_pd15 : parseMethodDescriptor "()D" = some ⟨[], some .double⟩ := by decide +kernel
def Hs (Z : State) (h : Heap) (a : Addr) (x1 : Value) (x2 : Value) (x3 : Value) (x4 : Value) : Prop := Exa Z h a "com/example/nosy_pool/nosypool/CheckoutHistory" ∧ Fld Z h a "com/example/nosy_pool/nosypool/CheckoutHistory" "holdNanos" "[J" x1 ∧ Fld Z h a "com/example/nosy_pool/nosypool/CheckoutHistory" "busyNanos" "[J" x2 ∧ Fld Z h a "com/example/nosy_pool/nosypool/CheckoutHistory" "count" "J" x3 ∧ Fld Z h a "com/example/nosy_pool/nosypool/CheckoutHistory" "rolledBack" "J" x4
theorem d2_0 : decode prog_1_method_2_code 0 = .ok (.aload_n 0, 1) := by decide +kernel
theorem d2_1 : decode prog_1_method_2_code 1 = .ok (.invokespecial 9, 3) := by decide +kernel
theorem d2_4 : decode prog_1_method_2_code 4 = .ok (.aload_n 0, 1) := by decide +kernel
theorem d2_5 : decode prog_1_method_2_code 5 = .ok (.aload_n 1, 1) := by decide +kernel
theorem d2_6 : decode prog_1_method_2_code 6 = .ok (.putfield 14, 3) := by decide +kernel
theorem d2_9 : decode prog_1_method_2_code 9 = .ok (.aload_n 0, 1) := by decide +kernel
theorem d2_10 : decode prog_1_method_2_code 10 = .ok (.aload_n 2, 1) := by decide +kernel
theorem d2_11 : decode prog_1_method_2_code 11 = .ok (.putfield 18, 3) := by decide +kernel
theorem d2_14 : decode prog_1_method_2_code 14 = .ok (.aload_n 0, 1) := by decide +kernel
theorem d2_15 : decode prog_1_method_2_code 15 = .ok (.lload_n 3, 1) := by decide +kernel
theorem d2_16 : decode prog_1_method_2_code 16 = .ok (.putfield 21, 3) := by decide +kernel
theorem d2_19 : decode prog_1_method_2_code 19 = .ok (.aload_n 0, 1) := by decide +kernel
theorem d2_20 : decode prog_1_method_2_code 20 = .ok (.lload 5, 2) := by decide +kernel
theorem d2_22 : decode prog_1_method_2_code 22 = .ok (.putfield 25, 3) := by decide +kernel
theorem d2_25 : decode prog_1_method_2_code 25 = .ok (.return_, 1) := by decide +kernel
def QrmI2 (Z : State) (a1 : Addr) (p0 : Value) (p1 : Value) (p2 : Int64) (p3 : Int64) (h0 : Heap) (n0 : Nat) (v : Option Value) (h : Heap) (L : List Loc) : Prop := v = none ∧ Fr n0 L ∧ Keep h0 h [a1] ∧ Hs Z h a1 p0 p1 (.long p2) (.long p3)
theorem own_pn_rmI2 : plainName "com/example/nosy_pool/nosypool/CheckoutHistory" = true := by first | (simp [plainName, overriddenIn]; done) | decide +kernel
theorem own_ef_rmI2 (m : MethodId) (a1 : Addr) (p0 : Value) (p1 : Value) (p2 : Int64) (p3 : Int64) (h_p0 : p0.isRef = true)  (h_p1 : p1.isRef = true) : entryFrame m #[(.ref a1), p0, p1, (.long p2), (.long p3)] 7 = (mkF m 0 #[.val (.ref a1), .val p0, .val p1, .val (.long p2), .second, .val (.long p3), .second] []) := by rcases ref_cases h_p0 with rfl | ⟨_, rfl⟩ <;> rcases ref_cases h_p1 with rfl | ⟨_, rfl⟩ <;> first | (simp [entryFrame, mkF, argsToLocals, Value.category]; done) | rfl
set_option maxRecDepth 65536 in
set_option maxHeartbeats 40000000 in
theorem rmI2 (l : Launch) (Z : State) (a0 : Array Value) (hw : ∀ d ∈ tables_1, d.before a0 Z = true) (ws : List Jvm.Cond) (a1 : Addr) (p0 : Value) (p1 : Value) (p2 : Int64) (p3 : Int64) (u0 : Value) (u1 : Value) (u2 : Value) (u3 : Value) (h0 : Heap) (n0 : Nat) (Z0 : n0 ≤ h0.size) (hr0 : p0.isRef = true) (hr1 : p1.isRef = true) (ge1 : n0 ≤ a1) (F : Hs Z h0 a1 u0 u1 u2 u3) :
    MetFree l (⟨"com/example/nosy_pool/nosypool/CheckoutHistory", "<init>", "([J[JJJ)V"⟩ : MethodName) (head1 (Jvm.Cond.code (⟨"com/example/nosy_pool/nosypool/CheckoutHistory", "<init>", "([J[JJJ)V"⟩ : MethodName) prog_1_method_2_code 7 none :: ws) ({ frames := 2, cells := 0, slots := 0, locals := 24 } : Room)) (fun a U => a = #[(.ref a1), p0, p1, (.long p2), (.long p3)] ∧ Z.Warmed39 U.vm ∧ U.heap = h0) (fun _ _ _ _ _ => True) (fun _ U o U' => ∃ v L, o = .returned v ∧ QrmI2 Z a1 p0 p1 p2 p3 h0 n0 v U'.heap L ∧ FrameEnd U o U' L ({ frames := 2, cells := 0, slots := 0, locals := 24 } : Room).cells ({ frames := 2, cells := 0, slots := 0, locals := 24 } : Room).slots) := by
  refine MetFree.of_bodySF (plainFor_of_name own_pn_rmI2) hisR ?_
  intro p e s m args below meth c s₁ Bd hml0 hP hK
  obtain ⟨hargs, hZ, hh⟩ := hP
  have hx := Bd.exec
  have hby := Bd.bytes
  have hml : c.maxLocals = 7 := hml0
  have hown : s.vm.findClass "com/example/nosy_pool/nosypool/CheckoutHistory" = some m.cls := findClass_of_methodNamed Bd.named
  have hnm := (name_of_methodNamed Bd.named Bd.method).1
  have hlock : meth.locks = false := Bd.notSynchronized
  have hret0 := Bd.returns
  have X0 : Stand p l e ({ frames := 2, cells := 0, slots := 0, locals := 24 } : Room) s m args below meth c s₁ [] 0 0 := Stand.of_body Bd
  have e0 : s₁.heap = h0 := by rw [← hh, Bd.state]; rfl
  have N0 := Fr.nil n0
  have pre0 : ∀ t, Steps p.tables e below (s₁.setTop (mkF m 0 #[.val (.ref a1), .val p0, .val p1, .val (.long p2), .second, .val (.long p3), .second] [])) t → Steps p.tables e below (s₁.setTop (entryFrame m args 7)) t := fun t k => castTop (by rw [hargs]; exact own_ef_rmI2 m a1 p0 p1 p2 p3 hr0 hr1) k
  clear Bd
  obtain ⟨Ex, F0, F1, F2, F3⟩ := F
  obtain ⟨T1, X1, e1, st1⟩ := initO X0 hx hZ hown (hw _ (List.mem_of_getElem? (i := 10) rfl)) (hw _ (List.mem_of_getElem? (i := 11) rfl)) (hw _ (List.mem_of_getElem? (i := 12) rfl)) e0 (g := (mkF m 1 #[.val (.ref a1), .val p0, .val p1, .val (.long p2), .second, .val (.long p3), .second] [(.ref a1)])) rfl (by rw [hml]; rfl) rfl (hb hby d2_1) (by decide) (W := 0) (by show 2 * 0 + _ ≤ _; exact Nat.le_of_eq rfl) (by decide)
  obtain ⟨T2, h2, X2, e2, W2, st2⟩ := putF X1 hx hZ hown (host := "") (Or.inl (hw _ (List.mem_of_getElem? (i := 13) rfl))) Via.refl e1 F0 Ex (Or.inr ⟨(hw _ (List.mem_of_getElem? (i := 14) rfl)), rfl, hnm⟩) (hw _ (List.mem_of_getElem? (i := 1) rfl)) (ty := (.array .long)) (by decide) (own_narR hr0 (by decide)) (own_fitR hr0 (by decide)) (g := (mkF m 6 #[.val (.ref a1), .val p0, .val p1, .val (.long p2), .second, .val (.long p3), .second] [p0, (.ref a1)])) rfl rfl (hb hby d2_6)
  have Z3 : n0 ≤ h2.size := Nat.le_trans Z0 (Keep.of_wr W2).1
  have K4 : Keep h0 h2 [a1] := (Keep.refl h0 [a1]).wr W2 (Or.inl (List.mem_of_getElem? (i := 0) rfl))
  have N2 := Fr.snoc X2 N0 ge1
  have f5 := F0.same W2
  have f6 := (F1.other W2 (Or.inr (slot_ne (Or.inr (hw _ (List.mem_of_getElem? (i := 16) rfl))) (Or.inr (hw _ (List.mem_of_getElem? (i := 14) rfl))) (by decide) (t := (.array .long)) (t' := (.array .long)) (by decide) (by decide))))
  have f7 := (Ex.wr W2)
  obtain ⟨T8, h8, X8, e8, W8, st8⟩ := putF X2 hx hZ hown (host := "") (Or.inl (hw _ (List.mem_of_getElem? (i := 15) rfl))) Via.refl e2 f6 f7 (Or.inr ⟨(hw _ (List.mem_of_getElem? (i := 16) rfl)), rfl, hnm⟩) (hw _ (List.mem_of_getElem? (i := 1) rfl)) (ty := (.array .long)) (by decide) (own_narR hr1 (by decide)) (own_fitR hr1 (by decide)) (g := (mkF m 11 #[.val (.ref a1), .val p0, .val p1, .val (.long p2), .second, .val (.long p3), .second] [p1, (.ref a1)])) rfl rfl (hb hby d2_11)
  have Z9 : n0 ≤ h8.size := Nat.le_trans Z3 (Keep.of_wr W8).1
  have K10 : Keep h0 h8 [a1] := K4.wr W8 (Or.inl (List.mem_of_getElem? (i := 0) rfl))
  have N8 := Fr.snoc X8 N2 ge1
  have f11 := f6.same W8
  have f12 := ((F2.other W2 (Or.inr (slot_ne (Or.inl (hw _ (List.mem_of_getElem? (i := 18) rfl))) (Or.inr (hw _ (List.mem_of_getElem? (i := 14) rfl))) (by decide) (t := .long) (t' := (.array .long)) (by decide) (by decide)))).other W8 (Or.inr (slot_ne (Or.inl (hw _ (List.mem_of_getElem? (i := 18) rfl))) (Or.inr (hw _ (List.mem_of_getElem? (i := 16) rfl))) (by decide) (t := .long) (t' := (.array .long)) (by decide) (by decide))))
  have f13 := (f7.wr W8)
  obtain ⟨T14, h14, X14, e14, W14, st14⟩ := putF X8 hx hZ hown (host := "") (Or.inl (hw _ (List.mem_of_getElem? (i := 17) rfl))) Via.refl e8 f12 f13 (Or.inl (hw _ (List.mem_of_getElem? (i := 18) rfl))) (hw _ (List.mem_of_getElem? (i := 1) rfl)) (ty := .long) (by decide) rfl rfl (g := (mkF m 16 #[.val (.ref a1), .val p0, .val p1, .val (.long p2), .second, .val (.long p3), .second] [(.long p2), (.ref a1)])) rfl rfl (hb hby d2_16)
  have Z15 : n0 ≤ h14.size := Nat.le_trans Z9 (Keep.of_wr W14).1
  have K16 : Keep h0 h14 [a1] := K10.wr W14 (Or.inl (List.mem_of_getElem? (i := 0) rfl))
  have N14 := Fr.snoc X14 N8 ge1
  have f17 := f12.same W14
  have f18 := (((F3.other W2 (Or.inr (slot_ne (Or.inl (hw _ (List.mem_of_getElem? (i := 20) rfl))) (Or.inr (hw _ (List.mem_of_getElem? (i := 14) rfl))) (by decide) (t := .long) (t' := (.array .long)) (by decide) (by decide)))).other W8 (Or.inr (slot_ne (Or.inl (hw _ (List.mem_of_getElem? (i := 20) rfl))) (Or.inr (hw _ (List.mem_of_getElem? (i := 16) rfl))) (by decide) (t := .long) (t' := (.array .long)) (by decide) (by decide)))).other W14 (Or.inr (slot_ne (Or.inl (hw _ (List.mem_of_getElem? (i := 20) rfl))) (Or.inl (hw _ (List.mem_of_getElem? (i := 18) rfl))) (by decide) (t := .long) (t' := .long) (by decide) (by decide))))
  have f19 := (f13.wr W14)
  obtain ⟨T20, h20, X20, e20, W20, st20⟩ := putF X14 hx hZ hown (host := "") (Or.inl (hw _ (List.mem_of_getElem? (i := 19) rfl))) Via.refl e14 f18 f19 (Or.inl (hw _ (List.mem_of_getElem? (i := 20) rfl))) (hw _ (List.mem_of_getElem? (i := 1) rfl)) (ty := .long) (by decide) rfl rfl (g := (mkF m 22 #[.val (.ref a1), .val p0, .val p1, .val (.long p2), .second, .val (.long p3), .second] [(.long p3), (.ref a1)])) rfl rfl (hb hby d2_22)
  have Z21 : n0 ≤ h20.size := Nat.le_trans Z15 (Keep.of_wr W20).1
  have K22 : Keep h0 h20 [a1] := K16.wr W20 (Or.inl (List.mem_of_getElem? (i := 0) rfl))
  have N20 := Fr.snoc X20 N14 ge1
  have f23 := f18.same W20
  have f24 := (f19.wr W20)
  have f25 := (((f5.other W8 (Or.inr (slot_ne (Or.inr (hw _ (List.mem_of_getElem? (i := 14) rfl))) (Or.inr (hw _ (List.mem_of_getElem? (i := 16) rfl))) (by decide) (t := (.array .long)) (t' := (.array .long)) (by decide) (by decide)))).other W14 (Or.inr (slot_ne (Or.inr (hw _ (List.mem_of_getElem? (i := 14) rfl))) (Or.inl (hw _ (List.mem_of_getElem? (i := 18) rfl))) (by decide) (t := (.array .long)) (t' := .long) (by decide) (by decide)))).other W20 (Or.inr (slot_ne (Or.inr (hw _ (List.mem_of_getElem? (i := 14) rfl))) (Or.inl (hw _ (List.mem_of_getElem? (i := 20) rfl))) (by decide) (t := (.array .long)) (t' := .long) (by decide) (by decide))))
  have f26 := ((f11.other W14 (Or.inr (slot_ne (Or.inr (hw _ (List.mem_of_getElem? (i := 16) rfl))) (Or.inl (hw _ (List.mem_of_getElem? (i := 18) rfl))) (by decide) (t := (.array .long)) (t' := .long) (by decide) (by decide)))).other W20 (Or.inr (slot_ne (Or.inr (hw _ (List.mem_of_getElem? (i := 16) rfl))) (Or.inl (hw _ (List.mem_of_getElem? (i := 20) rfl))) (by decide) (t := (.array .long)) (t' := .long) (by decide) (by decide))))
  have f27 := (f17.other W20 (Or.inr (slot_ne (Or.inl (hw _ (List.mem_of_getElem? (i := 18) rfl))) (Or.inl (hw _ (List.mem_of_getElem? (i := 20) rfl))) (by decide) (t := .long) (t' := .long) (by decide) (by decide))))
  obtain ⟨fs, hr, hrun, hended, hW, hsame⟩ := X20.leave (v := none) (fun _ => rfl)
  refine ⟨_, _, pre0 _ ?_, hrun, hended, _, _, rfl, ?_, ⟨_, rfl⟩, hW, hsame.mono (by decide) (by decide)⟩
  · show Steps p.tables e below (s₁.setTop (mkF m 0 #[.val (.ref a1), .val p0, .val p1, .val (.long p2), .second, .val (.long p3), .second] [])) _
    refine XS.aloadN X0.here hx rfl (hb hby d2_0) rfl rfl ?_
    show Steps p.tables e below (s₁.setTop (mkF m 1 #[.val (.ref a1), .val p0, .val p1, .val (.long p2), .second, .val (.long p3), .second] [(.ref a1)])) _
    refine st1 _ ?_
    show Steps p.tables e below (T1.setTop (mkF m 4 #[.val (.ref a1), .val p0, .val p1, .val (.long p2), .second, .val (.long p3), .second] [])) _
    refine XS.aloadN X1.here hx rfl (hb hby d2_4) rfl rfl ?_
    show Steps p.tables e below (T1.setTop (mkF m 5 #[.val (.ref a1), .val p0, .val p1, .val (.long p2), .second, .val (.long p3), .second] [(.ref a1)])) _
    refine XS.aloadN X1.here hx rfl (hb hby d2_5) rfl hr0 ?_
    show Steps p.tables e below (T1.setTop (mkF m 6 #[.val (.ref a1), .val p0, .val p1, .val (.long p2), .second, .val (.long p3), .second] [p0, (.ref a1)])) _
    refine st2 _ ?_
    show Steps p.tables e below (T2.setTop (mkF m 9 #[.val (.ref a1), .val p0, .val p1, .val (.long p2), .second, .val (.long p3), .second] [])) _
    refine XS.aloadN X2.here hx rfl (hb hby d2_9) rfl rfl ?_
    show Steps p.tables e below (T2.setTop (mkF m 10 #[.val (.ref a1), .val p0, .val p1, .val (.long p2), .second, .val (.long p3), .second] [(.ref a1)])) _
    refine XS.aloadN X2.here hx rfl (hb hby d2_10) rfl hr1 ?_
    show Steps p.tables e below (T2.setTop (mkF m 11 #[.val (.ref a1), .val p0, .val p1, .val (.long p2), .second, .val (.long p3), .second] [p1, (.ref a1)])) _
    refine st8 _ ?_
    show Steps p.tables e below (T8.setTop (mkF m 14 #[.val (.ref a1), .val p0, .val p1, .val (.long p2), .second, .val (.long p3), .second] [])) _
    refine XS.aloadN X8.here hx rfl (hb hby d2_14) rfl rfl ?_
    show Steps p.tables e below (T8.setTop (mkF m 15 #[.val (.ref a1), .val p0, .val p1, .val (.long p2), .second, .val (.long p3), .second] [(.ref a1)])) _
    refine XS.lloadN X8.here hx rfl (hb hby d2_15) rfl ?_
    show Steps p.tables e below (T8.setTop (mkF m 16 #[.val (.ref a1), .val p0, .val p1, .val (.long p2), .second, .val (.long p3), .second] [(.long p2), (.ref a1)])) _
    refine st14 _ ?_
    show Steps p.tables e below (T14.setTop (mkF m 19 #[.val (.ref a1), .val p0, .val p1, .val (.long p2), .second, .val (.long p3), .second] [])) _
    refine XS.aloadN X14.here hx rfl (hb hby d2_19) rfl rfl ?_
    show Steps p.tables e below (T14.setTop (mkF m 20 #[.val (.ref a1), .val p0, .val p1, .val (.long p2), .second, .val (.long p3), .second] [(.ref a1)])) _
    refine XS.lload X14.here hx rfl (hb hby d2_20) rfl ?_
    show Steps p.tables e below (T14.setTop (mkF m 22 #[.val (.ref a1), .val p0, .val p1, .val (.long p2), .second, .val (.long p3), .second] [(.long p3), (.ref a1)])) _
    refine st20 _ ?_
    show Steps p.tables e below (T20.setTop (mkF m 25 #[.val (.ref a1), .val p0, .val p1, .val (.long p2), .second, .val (.long p3), .second] [])) _
    exact X20.returnOut hx hret0 (hb hby d2_25) hr
  · show QrmI2 Z a1 p0 p1 p2 p3 h0 n0 _ T20.heap _
    rw [e20]
    exact ⟨rfl, N20, K22, f24, f25, f26, f27, f23⟩
def own_Hist (Z : State) (h : Heap) (a xh xb : Addr) (kh kb : ClassId) (x0 x1 y0 y1 cnt rb : Int64) : Prop := Hs Z h a (.ref xh) (.ref xb) (.long cnt) (.long rb) ∧ Arv Z h xh kh .long (1024 : Int32) [.long x0, .long x1] (.long (0 : Int64)) ∧ Arv Z h xb kb .long (1024 : Int32) [.long y0, .long y1] (.long (0 : Int64)) ∧ xh ≠ xb
theorem d1_0 : decode prog_1_method_1_code 0 = .ok (.aload_n 0, 1) := by decide +kernel
theorem d1_1 : decode prog_1_method_1_code 1 = .ok (.sipush 1024, 3) := by decide +kernel
theorem d1_4 : decode prog_1_method_1_code 4 = .ok (.newarray .long, 2) := by decide +kernel
theorem d1_6 : decode prog_1_method_1_code 6 = .ok (.sipush 1024, 3) := by decide +kernel
theorem d1_9 : decode prog_1_method_1_code 9 = .ok (.newarray .long, 2) := by decide +kernel
theorem d1_11 : decode prog_1_method_1_code 11 = .ok (.lconst 0, 1) := by decide +kernel
theorem d1_12 : decode prog_1_method_1_code 12 = .ok (.lconst 0, 1) := by decide +kernel
theorem d1_13 : decode prog_1_method_1_code 13 = .ok (.invokespecial 3, 3) := by decide +kernel
theorem d1_16 : decode prog_1_method_1_code 16 = .ok (.return_, 1) := by decide +kernel
def QI1 (Z : State) (a1 : Addr) (h0 : Heap) (n0 : Nat) (v : Option Value) (h : Heap) (L : List Loc) : Prop := v = none ∧ Fr n0 L ∧ Keep h0 h [a1] ∧ ∃ (xh xb : Addr) (kh kb : ClassId), h0.size ≤ xh ∧ h0.size ≤ xb ∧ own_Hist Z h a1 xh xb kh kb 0 0 0 0 0 0
theorem own_pn_rmI1 : plainName "com/example/nosy_pool/nosypool/CheckoutHistory" = true := by first | (simp [plainName, overriddenIn]; done) | decide +kernel
theorem own_ef_rmI1 (m : MethodId) (a1 : Addr) : entryFrame m #[(.ref a1)] 1 = (mkF m 0 #[.val (.ref a1)] []) := by first | (simp [entryFrame, mkF, argsToLocals, Value.category]; done) | rfl
set_option maxRecDepth 65536 in
set_option maxHeartbeats 40000000 in
theorem rmI1 (l : Launch) (Z : State) (a0 : Array Value) (hw : ∀ d ∈ tables_1, d.before a0 Z = true) (ws : List Jvm.Cond) (a1 : Addr) (u0 : Value) (u1 : Value) (u2 : Value) (u3 : Value) (h0 : Heap) (n0 : Nat) (Z0 : n0 ≤ h0.size) (ge1 : n0 ≤ a1) (F : Hs Z h0 a1 u0 u1 u2 u3) :
    MetFree l (⟨"com/example/nosy_pool/nosypool/CheckoutHistory", "<init>", "()V"⟩ : MethodName) (head1 (Jvm.Cond.code (⟨"com/example/nosy_pool/nosypool/CheckoutHistory", "<init>", "()V"⟩ : MethodName) prog_1_method_1_code 1 none :: ws) ({ frames := 3, cells := 2, slots := 2048, locals := 60 } : Room)) (fun a U => a = #[(.ref a1)] ∧ Z.Warmed39 U.vm ∧ U.heap = h0) (fun _ _ _ _ _ => True) (fun _ U o U' => ∃ v L, o = .returned v ∧ QI1 Z a1 h0 n0 v U'.heap L ∧ FrameEnd U o U' L ({ frames := 3, cells := 2, slots := 2048, locals := 60 } : Room).cells ({ frames := 3, cells := 2, slots := 2048, locals := 60 } : Room).slots) := by
  refine MetFree.of_bodySF (plainFor_of_name own_pn_rmI1) hisR ?_
  intro p e s m args below meth c s₁ Bd hml0 hP hK
  obtain ⟨hargs, hZ, hh⟩ := hP
  have hx := Bd.exec
  have hby := Bd.bytes
  have hml : c.maxLocals = 1 := hml0
  have hown : s.vm.findClass "com/example/nosy_pool/nosypool/CheckoutHistory" = some m.cls := findClass_of_methodNamed Bd.named
  have hnm := (name_of_methodNamed Bd.named Bd.method).1
  have hlock : meth.locks = false := Bd.notSynchronized
  have hret0 := Bd.returns
  have X0 : Stand p l e ({ frames := 3, cells := 2, slots := 2048, locals := 60 } : Room) s m args below meth c s₁ [] 0 0 := Stand.of_body Bd
  have e0 : s₁.heap = h0 := by rw [← hh, Bd.state]; rfl
  have N0 := Fr.nil n0
  have pre0 : ∀ t, Steps p.tables e below (s₁.setTop (mkF m 0 #[.val (.ref a1)] [])) t → Steps p.tables e below (s₁.setTop (entryFrame m args 1)) t := fun t k => castTop (by rw [hargs]; exact own_ef_rmI1 m a1) k
  clear Bd
  obtain ⟨Ex, F0, F1, F2, F3⟩ := F
  obtain ⟨T28, h28, k28, X28, e28, E28, A28, st28⟩ := newP X0 hx hZ (hw _ (List.mem_of_getElem? (i := 6) rfl)) e0 (g := (mkF m 4 #[.val (.ref a1)] [(.int (1024 : Int32)), (.ref a1)])) rfl (hb hby d1_4) rfl (by decide) (cap := 1024) (by decide) (by decide) (by decide) (by decide)
  obtain ⟨b28, g28⟩ : ∃ z, z = h0.size := ⟨_, rfl⟩
  rw [← g28] at A28 st28
  have ge_b28 : n0 ≤ b28 := Nat.le_trans Z0 (Nat.le_of_eq g28.symm)
  have sz_b28 : h0.size ≤ b28 := Nat.le_trans (Keep.refl h0 [a1]).1 (Nat.le_of_eq g28.symm)
  have Z29 : n0 ≤ h28.size := Nat.le_trans Z0 E28.1
  have K30 : Keep h0 h28 [a1] := (Keep.refl h0 [a1]).ext E28
  have V28 : Arv Z h28 b28 k28 .long (1024 : Int32) [] (.long (0 : Int64)) := Arv.new A28 (by decide)
  obtain ⟨T31, h31, k31, X31, e31, E31, A31, st31⟩ := newP X28 hx hZ (hw _ (List.mem_of_getElem? (i := 6) rfl)) e28 (g := (mkF m 9 #[.val (.ref a1)] [(.int (1024 : Int32)), (.ref b28), (.ref a1)])) rfl (hb hby d1_9) rfl (by decide) (cap := 1024) (by decide) (by decide) (by decide) (by decide)
  obtain ⟨b31, g31⟩ : ∃ z, z = h28.size := ⟨_, rfl⟩
  rw [← g31] at A31 st31
  have ge_b31 : n0 ≤ b31 := Nat.le_trans Z29 (Nat.le_of_eq g31.symm)
  have sz_b31 : h0.size ≤ b31 := Nat.le_trans K30.1 (Nat.le_of_eq g31.symm)
  have Z32 : n0 ≤ h31.size := Nat.le_trans Z29 E31.1
  have K33 : Keep h0 h31 [a1] := K30.ext E31
  have V31 : Arv Z h31 b31 k31 .long (1024 : Int32) [] (.long (0 : Int64)) := Arv.new A31 (by decide)
  have f34 := ((Ex.ext E28).ext E31)
  have f35 := ((F0.ext E28).ext E31)
  have f36 := ((F1.ext E28).ext E31)
  have f37 := ((F2.ext E28).ext E31)
  have f38 := ((F3.ext E28).ext E31)
  have f39 := (V28.ext E31)
  obtain ⟨v40, vmx40, ⟨T40, L40, k40, n40⟩, -, X40, ⟨Lc40, hQ40, l40, y40, z40⟩, st40⟩ := X31.specialBack hx (y := (⟨"com/example/nosy_pool/nosypool/CheckoutHistory", "<init>", "([J[JJJ)V"⟩ : MethodName)) rfl hown (mvT hZ (hw _ (List.mem_of_getElem? (i := 7) rfl))) (mvT hZ (hw _ (List.mem_of_getElem? (i := 8) rfl))) (mvT hZ (hw _ (List.mem_of_getElem? (i := 9) rfl))) (by decide) (backOf (W := 0) (rmI2 l Z a0 hw [] a1 (.ref b28) (.ref b31) 0 0 _ _ _ _ h31 n0 Z32 rfl rfl ge1 ⟨f34, f35, f36, f37, f38⟩) hZ (hw _ (List.mem_of_getElem? (i := 9) rfl)) (hw _ (List.mem_of_getElem? (i := 2) rfl)) (by decide) (by decide)) (g := (mkF m 13 #[.val (.ref a1)] [(.long (0 : Int64)), (.long (0 : Int64)), (.ref b31), (.ref b28), (.ref a1)])) rfl (by rw [hml]; rfl) (Steps.refl _) (a := a1) (argsL := [(.ref b28), (.ref b31), (.long (0 : Int64)), (.long (0 : Int64))]) (rest := []) (lenOf own_pd0 rfl) rfl (by show 2 * 0 + _ ≤ _; exact Nat.le_of_eq rfl) (hb hby d1_13) (fun _ _ => ⟨rfl, e31, (by decide : 2 + 0 ≤ _), (by decide : 2048 + 0 ≤ _)⟩)
  dsimp only [Pt.U, Pt.locs, Pt.cells, Pt.slots] at X40 l40 y40 z40 st40 hQ40
  subst l40 y40 z40
  obtain ⟨rfl, Nq40, K40, F40⟩ := hQ40
  have N40 := Fr.app N0 Nq40
  have Z41 : n0 ≤ T40.heap.size := Nat.le_trans Z32 K40.1
  have K42 : Keep h0 T40.heap [a1] := K33.trans K40 (allS (Or.inl (List.mem_of_getElem? (i := 0) rfl)) all0)
  have f43 := (f39.keep K40 (ninS (Ne.symm (Nat.ne_of_lt (Nat.lt_of_lt_of_le Ex.lt (Nat.le_of_eq g28.symm)))) nin0))
  have f44 := (V31.keep K40 (ninS (Ne.symm (Nat.ne_of_lt (Nat.lt_of_lt_of_le (Ex.ext E28).lt (Nat.le_of_eq g31.symm)))) nin0))
  obtain ⟨fs, hr, hrun, hended, hW, hsame⟩ := X40.leave (v := none) (fun _ => rfl)
  refine ⟨_, _, pre0 _ ?_, hrun, hended, _, _, rfl, ?_, ⟨_, rfl⟩, hW, hsame.mono (by decide) (by decide)⟩
  · show Steps p.tables e below (s₁.setTop (mkF m 0 #[.val (.ref a1)] [])) _
    refine XS.aloadN X0.here hx rfl (hb hby d1_0) rfl rfl ?_
    show Steps p.tables e below (s₁.setTop (mkF m 1 #[.val (.ref a1)] [(.ref a1)])) _
    refine XS.sipush X0.here hx rfl (hb hby d1_1) ?_
    show Steps p.tables e below (s₁.setTop (mkF m 4 #[.val (.ref a1)] [(.int (1024 : Int32)), (.ref a1)])) _
    refine st28 _ ?_
    show Steps p.tables e below (T28.setTop (mkF m 6 #[.val (.ref a1)] [(.ref b28), (.ref a1)])) _
    refine XS.sipush X28.here hx rfl (hb hby d1_6) ?_
    show Steps p.tables e below (T28.setTop (mkF m 9 #[.val (.ref a1)] [(.int (1024 : Int32)), (.ref b28), (.ref a1)])) _
    refine st31 _ ?_
    show Steps p.tables e below (T31.setTop (mkF m 11 #[.val (.ref a1)] [(.ref b31), (.ref b28), (.ref a1)])) _
    refine XS.lconst X31.here hx rfl (hb hby d1_11) ?_
    show Steps p.tables e below (T31.setTop (mkF m 12 #[.val (.ref a1)] [(.long (0 : Int64)), (.ref b31), (.ref b28), (.ref a1)])) _
    refine XS.lconst X31.here hx rfl (hb hby d1_12) ?_
    show Steps p.tables e below (T31.setTop (mkF m 13 #[.val (.ref a1)] [(.long (0 : Int64)), (.long (0 : Int64)), (.ref b31), (.ref b28), (.ref a1)])) _
    refine st40.trans ?_
    show Steps p.tables e below (T40.setTop (mkF m 16 #[.val (.ref a1)] [])) _
    exact X40.returnOut hx hret0 (hb hby d1_16) hr
  · show QI1 Z a1 h0 n0 _ T40.heap _
    exact ⟨rfl, N40, K42, b28, b31, k28, k31, sz_b28, sz_b31, F40, (f43).pad (pad_rep [] (.long (0 : Int64)) 2), (f44).pad (pad_rep [] (.long (0 : Int64)) 2), (Nat.ne_of_lt (Nat.lt_of_lt_of_le V28.lt (Nat.le_of_eq g31.symm)))⟩
theorem d4_0 : decode prog_1_method_3_code 0 = .ok (.aload_n 0, 1) := by decide +kernel
theorem d4_1 : decode prog_1_method_3_code 1 = .ok (.getfield 21, 3) := by decide +kernel
theorem d4_4 : decode prog_1_method_3_code 4 = .ok (.ldc2_w 28, 3) := by decide +kernel
theorem d4_7 : decode prog_1_method_3_code 7 = .ok (.lrem, 1) := by decide +kernel
theorem d4_8 : decode prog_1_method_3_code 8 = .ok (.l2i, 1) := by decide +kernel
theorem d4_9 : decode prog_1_method_3_code 9 = .ok (.istore 6, 2) := by decide +kernel
theorem d4_11 : decode prog_1_method_3_code 11 = .ok (.aload_n 0, 1) := by decide +kernel
theorem d4_12 : decode prog_1_method_3_code 12 = .ok (.getfield 14, 3) := by decide +kernel
theorem d4_15 : decode prog_1_method_3_code 15 = .ok (.iload 6, 2) := by decide +kernel
theorem d4_17 : decode prog_1_method_3_code 17 = .ok (.lload_n 1, 1) := by decide +kernel
theorem d4_18 : decode prog_1_method_3_code 18 = .ok (.lastore, 1) := by decide +kernel
theorem d4_19 : decode prog_1_method_3_code 19 = .ok (.aload_n 0, 1) := by decide +kernel
theorem d4_20 : decode prog_1_method_3_code 20 = .ok (.getfield 18, 3) := by decide +kernel
theorem d4_23 : decode prog_1_method_3_code 23 = .ok (.iload 6, 2) := by decide +kernel
theorem d4_25 : decode prog_1_method_3_code 25 = .ok (.lload_n 3, 1) := by decide +kernel
theorem d4_26 : decode prog_1_method_3_code 26 = .ok (.lastore, 1) := by decide +kernel
theorem d4_27 : decode prog_1_method_3_code 27 = .ok (.aload_n 0, 1) := by decide +kernel
theorem d4_28 : decode prog_1_method_3_code 28 = .ok (.dup, 1) := by decide +kernel
theorem d4_29 : decode prog_1_method_3_code 29 = .ok (.getfield 21, 3) := by decide +kernel
theorem d4_32 : decode prog_1_method_3_code 32 = .ok (.lconst 1, 1) := by decide +kernel
theorem d4_33 : decode prog_1_method_3_code 33 = .ok (.ladd, 1) := by decide +kernel
theorem d4_34 : decode prog_1_method_3_code 34 = .ok (.putfield 21, 3) := by decide +kernel
theorem d4_37 : decode prog_1_method_3_code 37 = .ok (.iload 5, 2) := by decide +kernel
theorem d4_39 : decode prog_1_method_3_code 39 = .ok (.ifCond .eq 13, 3) := by decide +kernel
theorem d4_42 : decode prog_1_method_3_code 42 = .ok (.aload_n 0, 1) := by decide +kernel
theorem d4_43 : decode prog_1_method_3_code 43 = .ok (.dup, 1) := by decide +kernel
theorem d4_44 : decode prog_1_method_3_code 44 = .ok (.getfield 25, 3) := by decide +kernel
theorem d4_47 : decode prog_1_method_3_code 47 = .ok (.lconst 1, 1) := by decide +kernel
theorem d4_48 : decode prog_1_method_3_code 48 = .ok (.ladd, 1) := by decide +kernel
theorem d4_49 : decode prog_1_method_3_code 49 = .ok (.putfield 25, 3) := by decide +kernel
theorem d4_52 : decode prog_1_method_3_code 52 = .ok (.return_, 1) := by decide +kernel
def QRec (Z : State) (a1 xh xb : Addr) (kh kb : ClassId) (x0 x1 y0 y1 cnt rb : Int64) (h0 : Heap) (n0 : Nat) (v : Option Value) (h : Heap) (L : List Loc) : Prop := v = none ∧ Fr n0 L ∧ Keep h0 h [a1, xh, xb] ∧ own_Hist Z h a1 xh xb kh kb x0 x1 y0 y1 cnt rb
theorem own_pn_rmRec0 : plainName "com/example/nosy_pool/nosypool/CheckoutHistory" = true := by first | (simp [plainName, overriddenIn]; done) | decide +kernel
theorem own_ef_rmRec0 (m : MethodId) (a1 : Addr) (q1 : Int64) (q2 : Int64) (p5 : Int32) : entryFrame m #[(.ref a1), (.long q1), (.long q2), (.int p5)] 7 = (mkF m 0 #[.val (.ref a1), .val (.long q1), .second, .val (.long q2), .second, .val (.int p5), .unset] []) := by first | (simp [entryFrame, mkF, argsToLocals, Value.category]; done) | rfl
set_option maxRecDepth 65536 in
set_option maxHeartbeats 40000000 in
theorem rmRec0 (l : Launch) (Z : State) (a0 : Array Value) (hw : ∀ d ∈ tables_1, d.before a0 Z = true) (ws : List Jvm.Cond) (a1 : Addr) (xh : Addr) (xb : Addr) (kh : ClassId) (kb : ClassId) (x0 : Int64) (x1 : Int64) (y0 : Int64) (y1 : Int64) (rb : Int64) (q1 : Int64) (q2 : Int64) (p5 : Int32) (h0 : Heap) (n0 : Nat) (Z0 : n0 ≤ h0.size) (ge1 : n0 ≤ a1) (ge2 : n0 ≤ xh) (ge3 : n0 ≤ xb) (HH : own_Hist Z h0 a1 xh xb kh kb x0 x1 y0 y1 0 rb) :
    MetFree l (⟨"com/example/nosy_pool/nosypool/CheckoutHistory", "record", "(JJZ)V"⟩ : MethodName) (head1 (Jvm.Cond.code (⟨"com/example/nosy_pool/nosypool/CheckoutHistory", "record", "(JJZ)V"⟩ : MethodName) prog_1_method_3_code 7 none :: ws) ({ frames := 0, cells := 0, slots := 0, locals := 0 } : Room)) (fun a U => a = #[(.ref a1), (.long q1), (.long q2), (.int p5)] ∧ Z.Warmed39 U.vm ∧ U.heap = h0) (fun _ _ _ _ _ => True) (fun _ U o U' => ∃ v L, o = .returned v ∧ QRec Z a1 xh xb kh kb q1 x1 q2 y1 1 (if p5 = (0 : Int32) then rb else rb + 1) h0 n0 v U'.heap L ∧ FrameEnd U o U' L ({ frames := 0, cells := 0, slots := 0, locals := 0 } : Room).cells ({ frames := 0, cells := 0, slots := 0, locals := 0 } : Room).slots) := by
  refine MetFree.of_bodySF (plainFor_of_name own_pn_rmRec0) hisR ?_
  intro p e s m args below meth c s₁ Bd hml0 hP hK
  obtain ⟨hargs, hZ, hh⟩ := hP
  have hx := Bd.exec
  have hby := Bd.bytes
  have hml : c.maxLocals = 7 := hml0
  have hown : s.vm.findClass "com/example/nosy_pool/nosypool/CheckoutHistory" = some m.cls := findClass_of_methodNamed Bd.named
  have hnm := (name_of_methodNamed Bd.named Bd.method).1
  have hlock : meth.locks = false := Bd.notSynchronized
  have hret0 := Bd.returns
  have X0 : Stand p l e ({ frames := 0, cells := 0, slots := 0, locals := 0 } : Room) s m args below meth c s₁ [] 0 0 := Stand.of_body Bd
  have e0 : s₁.heap = h0 := by rw [← hh, Bd.state]; rfl
  have N0 := Fr.nil n0
  have pre0 : ∀ t, Steps p.tables e below (s₁.setTop (mkF m 0 #[.val (.ref a1), .val (.long q1), .second, .val (.long q2), .second, .val (.int p5), .unset] [])) t → Steps p.tables e below (s₁.setTop (entryFrame m args 7)) t := fun t k => castTop (by rw [hargs]; exact own_ef_rmRec0 m a1 q1 q2 p5) k
  clear Bd
  obtain ⟨⟨Ex, F0, F1, F2, F3⟩, Vh, Vb, hne⟩ := HH
  have n1 : a1 ≠ xh := Exa.neArv (n := 4) Ex Vh (hw _ (List.mem_of_getElem? (i := 1) rfl))
  have n2 : a1 ≠ xb := Exa.neArv (n := 4) Ex Vb (hw _ (List.mem_of_getElem? (i := 1) rfl))
  obtain ⟨T45, X45, e45, st45⟩ := getF X0 hx hZ hown (host := "") (Or.inl (hw _ (List.mem_of_getElem? (i := 17) rfl))) Via.refl e0 F2 (g := (mkF m 1 #[.val (.ref a1), .val (.long q1), .second, .val (.long q2), .second, .val (.int p5), .unset] [(.ref a1)])) rfl rfl (hb hby d4_1)
  have st46 : ∀ target, Steps p.tables e below (T45.setTop (mkF m 11 #[.val (.ref a1), .val (.long q1), .second, .val (.long q2), .second, .val (.int p5), .val (.int (0 : Int32))] [])) target → Steps p.tables e below (T45.setTop (mkF m 9 #[.val (.ref a1), .val (.long q1), .second, .val (.long q2), .second, .val (.int p5), .unset] [(.int (((0 : Int64) - ((0 : Int64) / (1024 : Int64)) * (1024 : Int64)).toInt32))])) target := by
    rw [show (((0 : Int64) - ((0 : Int64) / (1024 : Int64)) * (1024 : Int64)).toInt32) = (0 : Int32) by decide]
    intro target hk
    show Steps p.tables e below (T45.setTop (mkF m 9 #[.val (.ref a1), .val (.long q1), .second, .val (.long q2), .second, .val (.int p5), .unset] [(.int (0 : Int32))])) _
    refine XS.istore X45.here hx rfl (hb hby d4_9) rfl (l' := #[.val (.ref a1), .val (.long q1), .second, .val (.long q2), .second, .val (.int p5), .val (.int (0 : Int32))]) rfl ?_
    exact hk
  obtain ⟨T47, X47, e47, st47⟩ := getF X45 hx hZ hown (host := "") (Or.inl (hw _ (List.mem_of_getElem? (i := 13) rfl))) Via.refl e45 F0 (g := (mkF m 12 #[.val (.ref a1), .val (.long q1), .second, .val (.long q2), .second, .val (.int p5), .val (.int (0 : Int32))] [(.ref a1)])) rfl rfl (hb hby d4_12)
  obtain ⟨cl48, Ar48, q48, S48, M48, Hs48, G48⟩ := id Vh
  obtain ⟨T48, h48, X48, e48, W48, st48⟩ := stJ X47 hx hZ e47 Ar48 (j := (0 : Int32)) (inb_of S48 ⟨(by decide), (by decide)⟩) (g := (mkF m 18 #[.val (.ref a1), .val (.long q1), .second, .val (.long q2), .second, .val (.int p5), .val (.int (0 : Int32))] [(.long q1), (.int (0 : Int32)), (.ref xh)])) rfl rfl (hb hby d4_18)
  have Z49 : n0 ≤ h48.size := Nat.le_trans Z0 (Keep.of_wr W48).1
  have K50 : Keep h0 h48 [a1, xh, xb] := (Keep.refl h0 [a1, xh, xb]).wr W48 (Or.inl (List.mem_of_getElem? (i := 1) rfl))
  have N48 := Fr.snoc X48 N0 ge2
  have V48 : Arv Z h48 xh kh .long (1024 : Int32) [(.long q1), (.long x1)] (.long (0 : Int64)) := Arv.set Ar48 q48 S48 M48 Hs48 G48 rfl W48 0 rfl (Nat.le_of_ble_eq_true rfl)
  have f51 := (F1.other W48 (Or.inl n1))
  obtain ⟨T52, X52, e52, st52⟩ := getF X48 hx hZ hown (host := "") (Or.inl (hw _ (List.mem_of_getElem? (i := 15) rfl))) Via.refl e48 f51 (g := (mkF m 20 #[.val (.ref a1), .val (.long q1), .second, .val (.long q2), .second, .val (.int p5), .val (.int (0 : Int32))] [(.ref a1)])) rfl rfl (hb hby d4_20)
  have f54 := (Vb.other W48 (Ne.symm hne))
  obtain ⟨cl53, Ar53, q53, S53, M53, Hs53, G53⟩ := id f54
  obtain ⟨T53, h53, X53, e53, W53, st53⟩ := stJ X52 hx hZ e52 Ar53 (j := (0 : Int32)) (inb_of S53 ⟨(by decide), (by decide)⟩) (g := (mkF m 26 #[.val (.ref a1), .val (.long q1), .second, .val (.long q2), .second, .val (.int p5), .val (.int (0 : Int32))] [(.long q2), (.int (0 : Int32)), (.ref xb)])) rfl rfl (hb hby d4_26)
  have Z55 : n0 ≤ h53.size := Nat.le_trans Z49 (Keep.of_wr W53).1
  have K56 : Keep h0 h53 [a1, xh, xb] := K50.wr W53 (Or.inl (List.mem_of_getElem? (i := 2) rfl))
  have N53 := Fr.snoc X53 N48 ge3
  have V53 : Arv Z h53 xb kb .long (1024 : Int32) [(.long q2), (.long y1)] (.long (0 : Int64)) := Arv.set Ar53 q53 S53 M53 Hs53 G53 rfl W53 0 rfl (Nat.le_of_ble_eq_true rfl)
  have f57 := ((F2.other W48 (Or.inl n1)).other W53 (Or.inl n2))
  obtain ⟨T58, X58, e58, st58⟩ := getF X53 hx hZ hown (host := "") (Or.inl (hw _ (List.mem_of_getElem? (i := 17) rfl))) Via.refl e53 f57 (g := (mkF m 29 #[.val (.ref a1), .val (.long q1), .second, .val (.long q2), .second, .val (.int p5), .val (.int (0 : Int32))] [(.ref a1), (.ref a1)])) rfl rfl (hb hby d4_29)
  have f59 := ((Ex.wr W48).wr W53)
  obtain ⟨T60, h60, X60, e60, W60, st60⟩ := putF X58 hx hZ hown (host := "") (Or.inl (hw _ (List.mem_of_getElem? (i := 17) rfl))) Via.refl e58 f57 f59 (Or.inl (hw _ (List.mem_of_getElem? (i := 18) rfl))) (hw _ (List.mem_of_getElem? (i := 1) rfl)) (ty := .long) (by decide) rfl rfl (g := (mkF m 34 #[.val (.ref a1), .val (.long q1), .second, .val (.long q2), .second, .val (.int p5), .val (.int (0 : Int32))] [(.long ((0 : Int64) + (1 : Int64))), (.ref a1)])) rfl rfl (hb hby d4_34)
  have Z61 : n0 ≤ h60.size := Nat.le_trans Z55 (Keep.of_wr W60).1
  have K62 : Keep h0 h60 [a1, xh, xb] := K56.wr W60 (Or.inl (List.mem_of_getElem? (i := 0) rfl))
  have N60 := Fr.snoc X60 N53 ge1
  have f63 := f57.same W60
  by_cases hc : p5 = (0 : Int32)
  · skip
    have f64 := (f59.wr W60)
    have f65 := (((F0.other W48 (Or.inl n1)).other W53 (Or.inl n2)).other W60 (Or.inr (slot_ne (Or.inr (hw _ (List.mem_of_getElem? (i := 14) rfl))) (Or.inl (hw _ (List.mem_of_getElem? (i := 18) rfl))) (by decide) (t := (.array .long)) (t' := .long) (by decide) (by decide))))
    have f66 := ((f51.other W53 (Or.inl n2)).other W60 (Or.inr (slot_ne (Or.inr (hw _ (List.mem_of_getElem? (i := 16) rfl))) (Or.inl (hw _ (List.mem_of_getElem? (i := 18) rfl))) (by decide) (t := (.array .long)) (t' := .long) (by decide) (by decide))))
    have f67 := (((F3.other W48 (Or.inl n1)).other W53 (Or.inl n2)).other W60 (Or.inr (slot_ne (Or.inl (hw _ (List.mem_of_getElem? (i := 20) rfl))) (Or.inl (hw _ (List.mem_of_getElem? (i := 18) rfl))) (by decide) (t := .long) (t' := .long) (by decide) (by decide))))
    have f68 := ((V48.other W53 hne).other W60 (Ne.symm n1))
    have f69 := (V53.other W60 (Ne.symm n2))
    obtain ⟨fs, hr, hrun, hended, hW, hsame⟩ := X60.leave (v := none) (fun _ => rfl)
    refine ⟨_, _, pre0 _ ?_, hrun, hended, _, _, rfl, ?_, ⟨_, rfl⟩, hW, hsame.mono (by decide) (by decide)⟩
    · show Steps p.tables e below (s₁.setTop (mkF m 0 #[.val (.ref a1), .val (.long q1), .second, .val (.long q2), .second, .val (.int p5), .unset] [])) _
      refine XS.aloadN X0.here hx rfl (hb hby d4_0) rfl rfl ?_
      show Steps p.tables e below (s₁.setTop (mkF m 1 #[.val (.ref a1), .val (.long q1), .second, .val (.long q2), .second, .val (.int p5), .unset] [(.ref a1)])) _
      refine st45 _ ?_
      show Steps p.tables e below (T45.setTop (mkF m 4 #[.val (.ref a1), .val (.long q1), .second, .val (.long q2), .second, .val (.int p5), .unset] [(.long (0 : Int64))])) _
      refine X45.ldc2Long hx hown (mvT hZ (hw _ (List.mem_of_getElem? (i := 26) rfl))) (g := (mkF m 4 #[.val (.ref a1), .val (.long q1), .second, .val (.long q2), .second, .val (.int p5), .unset] [(.long (0 : Int64))])) rfl (hb hby d4_4) _ ?_
      show Steps p.tables e below (T45.setTop (mkF m 7 #[.val (.ref a1), .val (.long q1), .second, .val (.long q2), .second, .val (.int p5), .unset] [(.long (1024 : Int64)), (.long (0 : Int64))])) _
      refine XS.lrem X45.here hx rfl (hb hby d4_7) rfl (by decide) ?_
      show Steps p.tables e below (T45.setTop (mkF m 8 #[.val (.ref a1), .val (.long q1), .second, .val (.long q2), .second, .val (.int p5), .unset] [(.long ((0 : Int64) - ((0 : Int64) / (1024 : Int64)) * (1024 : Int64)))])) _
      refine XS.l2i X45.here hx rfl (hb hby d4_8) rfl ?_
      show Steps p.tables e below (T45.setTop (mkF m 9 #[.val (.ref a1), .val (.long q1), .second, .val (.long q2), .second, .val (.int p5), .unset] [(.int (((0 : Int64) - ((0 : Int64) / (1024 : Int64)) * (1024 : Int64)).toInt32))])) _
      refine st46 _ ?_
      show Steps p.tables e below (T45.setTop (mkF m 11 #[.val (.ref a1), .val (.long q1), .second, .val (.long q2), .second, .val (.int p5), .val (.int (0 : Int32))] [])) _
      refine XS.aloadN X45.here hx rfl (hb hby d4_11) rfl rfl ?_
      show Steps p.tables e below (T45.setTop (mkF m 12 #[.val (.ref a1), .val (.long q1), .second, .val (.long q2), .second, .val (.int p5), .val (.int (0 : Int32))] [(.ref a1)])) _
      refine st47 _ ?_
      show Steps p.tables e below (T47.setTop (mkF m 15 #[.val (.ref a1), .val (.long q1), .second, .val (.long q2), .second, .val (.int p5), .val (.int (0 : Int32))] [(.ref xh)])) _
      refine XS.iload X47.here hx rfl (hb hby d4_15) rfl ?_
      show Steps p.tables e below (T47.setTop (mkF m 17 #[.val (.ref a1), .val (.long q1), .second, .val (.long q2), .second, .val (.int p5), .val (.int (0 : Int32))] [(.int (0 : Int32)), (.ref xh)])) _
      refine XS.lloadN X47.here hx rfl (hb hby d4_17) rfl ?_
      show Steps p.tables e below (T47.setTop (mkF m 18 #[.val (.ref a1), .val (.long q1), .second, .val (.long q2), .second, .val (.int p5), .val (.int (0 : Int32))] [(.long q1), (.int (0 : Int32)), (.ref xh)])) _
      refine st48 _ ?_
      show Steps p.tables e below (T48.setTop (mkF m 19 #[.val (.ref a1), .val (.long q1), .second, .val (.long q2), .second, .val (.int p5), .val (.int (0 : Int32))] [])) _
      refine XS.aloadN X48.here hx rfl (hb hby d4_19) rfl rfl ?_
      show Steps p.tables e below (T48.setTop (mkF m 20 #[.val (.ref a1), .val (.long q1), .second, .val (.long q2), .second, .val (.int p5), .val (.int (0 : Int32))] [(.ref a1)])) _
      refine st52 _ ?_
      show Steps p.tables e below (T52.setTop (mkF m 23 #[.val (.ref a1), .val (.long q1), .second, .val (.long q2), .second, .val (.int p5), .val (.int (0 : Int32))] [(.ref xb)])) _
      refine XS.iload X52.here hx rfl (hb hby d4_23) rfl ?_
      show Steps p.tables e below (T52.setTop (mkF m 25 #[.val (.ref a1), .val (.long q1), .second, .val (.long q2), .second, .val (.int p5), .val (.int (0 : Int32))] [(.int (0 : Int32)), (.ref xb)])) _
      refine XS.lloadN X52.here hx rfl (hb hby d4_25) rfl ?_
      show Steps p.tables e below (T52.setTop (mkF m 26 #[.val (.ref a1), .val (.long q1), .second, .val (.long q2), .second, .val (.int p5), .val (.int (0 : Int32))] [(.long q2), (.int (0 : Int32)), (.ref xb)])) _
      refine st53 _ ?_
      show Steps p.tables e below (T53.setTop (mkF m 27 #[.val (.ref a1), .val (.long q1), .second, .val (.long q2), .second, .val (.int p5), .val (.int (0 : Int32))] [])) _
      refine XS.aloadN X53.here hx rfl (hb hby d4_27) rfl rfl ?_
      show Steps p.tables e below (T53.setTop (mkF m 28 #[.val (.ref a1), .val (.long q1), .second, .val (.long q2), .second, .val (.int p5), .val (.int (0 : Int32))] [(.ref a1)])) _
      refine XS.dup X53.here hx rfl (hb hby d4_28) rfl rfl ?_
      show Steps p.tables e below (T53.setTop (mkF m 29 #[.val (.ref a1), .val (.long q1), .second, .val (.long q2), .second, .val (.int p5), .val (.int (0 : Int32))] [(.ref a1), (.ref a1)])) _
      refine st58 _ ?_
      show Steps p.tables e below (T58.setTop (mkF m 32 #[.val (.ref a1), .val (.long q1), .second, .val (.long q2), .second, .val (.int p5), .val (.int (0 : Int32))] [(.long (0 : Int64)), (.ref a1)])) _
      refine XS.lconst X58.here hx rfl (hb hby d4_32) ?_
      show Steps p.tables e below (T58.setTop (mkF m 33 #[.val (.ref a1), .val (.long q1), .second, .val (.long q2), .second, .val (.int p5), .val (.int (0 : Int32))] [(.long (1 : Int64)), (.long (0 : Int64)), (.ref a1)])) _
      refine XS.ladd X58.here hx rfl (hb hby d4_33) rfl ?_
      show Steps p.tables e below (T58.setTop (mkF m 34 #[.val (.ref a1), .val (.long q1), .second, .val (.long q2), .second, .val (.int p5), .val (.int (0 : Int32))] [(.long ((0 : Int64) + (1 : Int64))), (.ref a1)])) _
      refine st60 _ ?_
      show Steps p.tables e below (T60.setTop (mkF m 37 #[.val (.ref a1), .val (.long q1), .second, .val (.long q2), .second, .val (.int p5), .val (.int (0 : Int32))] [])) _
      refine XS.iload X60.here hx rfl (hb hby d4_37) rfl ?_
      show Steps p.tables e below (T60.setTop (mkF m 39 #[.val (.ref a1), .val (.long q1), .second, .val (.long q2), .second, .val (.int p5), .val (.int (0 : Int32))] [(.int p5)])) _
      refine XS.ifYes X60.here hx rfl (pc0 := 39) (pc' := 52) rfl (hb hby d4_39) rfl ((if0 _ _).trans (teq hc).1) (by decide) (by decide) ?_
      show Steps p.tables e below (T60.setTop (mkF m 52 #[.val (.ref a1), .val (.long q1), .second, .val (.long q2), .second, .val (.int p5), .val (.int (0 : Int32))] [])) _
      exact X60.returnOut hx hret0 (hb hby d4_52) hr
    · show QRec Z a1 xh xb kh kb q1 x1 q2 y1 1 (if p5 = (0 : Int32) then rb else rb + 1) h0 n0 _ T60.heap _
      rw [e60]
      exact ⟨rfl, N60, K62, ⟨f64, f65, f66, f63, by rw [if_pos hc]; exact f67⟩, f68, f69, hne⟩
  · skip
    have f70 := (((F3.other W48 (Or.inl n1)).other W53 (Or.inl n2)).other W60 (Or.inr (slot_ne (Or.inl (hw _ (List.mem_of_getElem? (i := 20) rfl))) (Or.inl (hw _ (List.mem_of_getElem? (i := 18) rfl))) (by decide) (t := .long) (t' := .long) (by decide) (by decide))))
    obtain ⟨T71, X71, e71, st71⟩ := getF X60 hx hZ hown (host := "") (Or.inl (hw _ (List.mem_of_getElem? (i := 19) rfl))) Via.refl e60 f70 (g := (mkF m 44 #[.val (.ref a1), .val (.long q1), .second, .val (.long q2), .second, .val (.int p5), .val (.int (0 : Int32))] [(.ref a1), (.ref a1)])) rfl rfl (hb hby d4_44)
    have f72 := (f59.wr W60)
    obtain ⟨T73, h73, X73, e73, W73, st73⟩ := putF X71 hx hZ hown (host := "") (Or.inl (hw _ (List.mem_of_getElem? (i := 19) rfl))) Via.refl e71 f70 f72 (Or.inl (hw _ (List.mem_of_getElem? (i := 20) rfl))) (hw _ (List.mem_of_getElem? (i := 1) rfl)) (ty := .long) (by decide) rfl rfl (g := (mkF m 49 #[.val (.ref a1), .val (.long q1), .second, .val (.long q2), .second, .val (.int p5), .val (.int (0 : Int32))] [(.long (rb + (1 : Int64))), (.ref a1)])) rfl rfl (hb hby d4_49)
    have Z74 : n0 ≤ h73.size := Nat.le_trans Z61 (Keep.of_wr W73).1
    have K75 : Keep h0 h73 [a1, xh, xb] := K62.wr W73 (Or.inl (List.mem_of_getElem? (i := 0) rfl))
    have N73 := Fr.snoc X73 N60 ge1
    have f76 := f70.same W73
    have f77 := (f72.wr W73)
    have f78 := ((((F0.other W48 (Or.inl n1)).other W53 (Or.inl n2)).other W60 (Or.inr (slot_ne (Or.inr (hw _ (List.mem_of_getElem? (i := 14) rfl))) (Or.inl (hw _ (List.mem_of_getElem? (i := 18) rfl))) (by decide) (t := (.array .long)) (t' := .long) (by decide) (by decide)))).other W73 (Or.inr (slot_ne (Or.inr (hw _ (List.mem_of_getElem? (i := 14) rfl))) (Or.inl (hw _ (List.mem_of_getElem? (i := 20) rfl))) (by decide) (t := (.array .long)) (t' := .long) (by decide) (by decide))))
    have f79 := (((f51.other W53 (Or.inl n2)).other W60 (Or.inr (slot_ne (Or.inr (hw _ (List.mem_of_getElem? (i := 16) rfl))) (Or.inl (hw _ (List.mem_of_getElem? (i := 18) rfl))) (by decide) (t := (.array .long)) (t' := .long) (by decide) (by decide)))).other W73 (Or.inr (slot_ne (Or.inr (hw _ (List.mem_of_getElem? (i := 16) rfl))) (Or.inl (hw _ (List.mem_of_getElem? (i := 20) rfl))) (by decide) (t := (.array .long)) (t' := .long) (by decide) (by decide))))
    have f80 := (f63.other W73 (Or.inr (slot_ne (Or.inl (hw _ (List.mem_of_getElem? (i := 18) rfl))) (Or.inl (hw _ (List.mem_of_getElem? (i := 20) rfl))) (by decide) (t := .long) (t' := .long) (by decide) (by decide))))
    have f81 := (((V48.other W53 hne).other W60 (Ne.symm n1)).other W73 (Ne.symm n1))
    have f82 := ((V53.other W60 (Ne.symm n2)).other W73 (Ne.symm n2))
    obtain ⟨fs, hr, hrun, hended, hW, hsame⟩ := X73.leave (v := none) (fun _ => rfl)
    refine ⟨_, _, pre0 _ ?_, hrun, hended, _, _, rfl, ?_, ⟨_, rfl⟩, hW, hsame.mono (by decide) (by decide)⟩
    · show Steps p.tables e below (s₁.setTop (mkF m 0 #[.val (.ref a1), .val (.long q1), .second, .val (.long q2), .second, .val (.int p5), .unset] [])) _
      refine XS.aloadN X0.here hx rfl (hb hby d4_0) rfl rfl ?_
      show Steps p.tables e below (s₁.setTop (mkF m 1 #[.val (.ref a1), .val (.long q1), .second, .val (.long q2), .second, .val (.int p5), .unset] [(.ref a1)])) _
      refine st45 _ ?_
      show Steps p.tables e below (T45.setTop (mkF m 4 #[.val (.ref a1), .val (.long q1), .second, .val (.long q2), .second, .val (.int p5), .unset] [(.long (0 : Int64))])) _
      refine X45.ldc2Long hx hown (mvT hZ (hw _ (List.mem_of_getElem? (i := 26) rfl))) (g := (mkF m 4 #[.val (.ref a1), .val (.long q1), .second, .val (.long q2), .second, .val (.int p5), .unset] [(.long (0 : Int64))])) rfl (hb hby d4_4) _ ?_
      show Steps p.tables e below (T45.setTop (mkF m 7 #[.val (.ref a1), .val (.long q1), .second, .val (.long q2), .second, .val (.int p5), .unset] [(.long (1024 : Int64)), (.long (0 : Int64))])) _
      refine XS.lrem X45.here hx rfl (hb hby d4_7) rfl (by decide) ?_
      show Steps p.tables e below (T45.setTop (mkF m 8 #[.val (.ref a1), .val (.long q1), .second, .val (.long q2), .second, .val (.int p5), .unset] [(.long ((0 : Int64) - ((0 : Int64) / (1024 : Int64)) * (1024 : Int64)))])) _
      refine XS.l2i X45.here hx rfl (hb hby d4_8) rfl ?_
      show Steps p.tables e below (T45.setTop (mkF m 9 #[.val (.ref a1), .val (.long q1), .second, .val (.long q2), .second, .val (.int p5), .unset] [(.int (((0 : Int64) - ((0 : Int64) / (1024 : Int64)) * (1024 : Int64)).toInt32))])) _
      refine st46 _ ?_
      show Steps p.tables e below (T45.setTop (mkF m 11 #[.val (.ref a1), .val (.long q1), .second, .val (.long q2), .second, .val (.int p5), .val (.int (0 : Int32))] [])) _
      refine XS.aloadN X45.here hx rfl (hb hby d4_11) rfl rfl ?_
      show Steps p.tables e below (T45.setTop (mkF m 12 #[.val (.ref a1), .val (.long q1), .second, .val (.long q2), .second, .val (.int p5), .val (.int (0 : Int32))] [(.ref a1)])) _
      refine st47 _ ?_
      show Steps p.tables e below (T47.setTop (mkF m 15 #[.val (.ref a1), .val (.long q1), .second, .val (.long q2), .second, .val (.int p5), .val (.int (0 : Int32))] [(.ref xh)])) _
      refine XS.iload X47.here hx rfl (hb hby d4_15) rfl ?_
      show Steps p.tables e below (T47.setTop (mkF m 17 #[.val (.ref a1), .val (.long q1), .second, .val (.long q2), .second, .val (.int p5), .val (.int (0 : Int32))] [(.int (0 : Int32)), (.ref xh)])) _
      refine XS.lloadN X47.here hx rfl (hb hby d4_17) rfl ?_
      show Steps p.tables e below (T47.setTop (mkF m 18 #[.val (.ref a1), .val (.long q1), .second, .val (.long q2), .second, .val (.int p5), .val (.int (0 : Int32))] [(.long q1), (.int (0 : Int32)), (.ref xh)])) _
      refine st48 _ ?_
      show Steps p.tables e below (T48.setTop (mkF m 19 #[.val (.ref a1), .val (.long q1), .second, .val (.long q2), .second, .val (.int p5), .val (.int (0 : Int32))] [])) _
      refine XS.aloadN X48.here hx rfl (hb hby d4_19) rfl rfl ?_
      show Steps p.tables e below (T48.setTop (mkF m 20 #[.val (.ref a1), .val (.long q1), .second, .val (.long q2), .second, .val (.int p5), .val (.int (0 : Int32))] [(.ref a1)])) _
      refine st52 _ ?_
      show Steps p.tables e below (T52.setTop (mkF m 23 #[.val (.ref a1), .val (.long q1), .second, .val (.long q2), .second, .val (.int p5), .val (.int (0 : Int32))] [(.ref xb)])) _
      refine XS.iload X52.here hx rfl (hb hby d4_23) rfl ?_
      show Steps p.tables e below (T52.setTop (mkF m 25 #[.val (.ref a1), .val (.long q1), .second, .val (.long q2), .second, .val (.int p5), .val (.int (0 : Int32))] [(.int (0 : Int32)), (.ref xb)])) _
      refine XS.lloadN X52.here hx rfl (hb hby d4_25) rfl ?_
      show Steps p.tables e below (T52.setTop (mkF m 26 #[.val (.ref a1), .val (.long q1), .second, .val (.long q2), .second, .val (.int p5), .val (.int (0 : Int32))] [(.long q2), (.int (0 : Int32)), (.ref xb)])) _
      refine st53 _ ?_
      show Steps p.tables e below (T53.setTop (mkF m 27 #[.val (.ref a1), .val (.long q1), .second, .val (.long q2), .second, .val (.int p5), .val (.int (0 : Int32))] [])) _
      refine XS.aloadN X53.here hx rfl (hb hby d4_27) rfl rfl ?_
      show Steps p.tables e below (T53.setTop (mkF m 28 #[.val (.ref a1), .val (.long q1), .second, .val (.long q2), .second, .val (.int p5), .val (.int (0 : Int32))] [(.ref a1)])) _
      refine XS.dup X53.here hx rfl (hb hby d4_28) rfl rfl ?_
      show Steps p.tables e below (T53.setTop (mkF m 29 #[.val (.ref a1), .val (.long q1), .second, .val (.long q2), .second, .val (.int p5), .val (.int (0 : Int32))] [(.ref a1), (.ref a1)])) _
      refine st58 _ ?_
      show Steps p.tables e below (T58.setTop (mkF m 32 #[.val (.ref a1), .val (.long q1), .second, .val (.long q2), .second, .val (.int p5), .val (.int (0 : Int32))] [(.long (0 : Int64)), (.ref a1)])) _
      refine XS.lconst X58.here hx rfl (hb hby d4_32) ?_
      show Steps p.tables e below (T58.setTop (mkF m 33 #[.val (.ref a1), .val (.long q1), .second, .val (.long q2), .second, .val (.int p5), .val (.int (0 : Int32))] [(.long (1 : Int64)), (.long (0 : Int64)), (.ref a1)])) _
      refine XS.ladd X58.here hx rfl (hb hby d4_33) rfl ?_
      show Steps p.tables e below (T58.setTop (mkF m 34 #[.val (.ref a1), .val (.long q1), .second, .val (.long q2), .second, .val (.int p5), .val (.int (0 : Int32))] [(.long ((0 : Int64) + (1 : Int64))), (.ref a1)])) _
      refine st60 _ ?_
      show Steps p.tables e below (T60.setTop (mkF m 37 #[.val (.ref a1), .val (.long q1), .second, .val (.long q2), .second, .val (.int p5), .val (.int (0 : Int32))] [])) _
      refine XS.iload X60.here hx rfl (hb hby d4_37) rfl ?_
      show Steps p.tables e below (T60.setTop (mkF m 39 #[.val (.ref a1), .val (.long q1), .second, .val (.long q2), .second, .val (.int p5), .val (.int (0 : Int32))] [(.int p5)])) _
      refine XS.ifNo X60.here hx rfl (hb hby d4_39) rfl ((if0 _ _).trans (feq hc).1) ?_
      show Steps p.tables e below (T60.setTop (mkF m 42 #[.val (.ref a1), .val (.long q1), .second, .val (.long q2), .second, .val (.int p5), .val (.int (0 : Int32))] [])) _
      refine XS.aloadN X60.here hx rfl (hb hby d4_42) rfl rfl ?_
      show Steps p.tables e below (T60.setTop (mkF m 43 #[.val (.ref a1), .val (.long q1), .second, .val (.long q2), .second, .val (.int p5), .val (.int (0 : Int32))] [(.ref a1)])) _
      refine XS.dup X60.here hx rfl (hb hby d4_43) rfl rfl ?_
      show Steps p.tables e below (T60.setTop (mkF m 44 #[.val (.ref a1), .val (.long q1), .second, .val (.long q2), .second, .val (.int p5), .val (.int (0 : Int32))] [(.ref a1), (.ref a1)])) _
      refine st71 _ ?_
      show Steps p.tables e below (T71.setTop (mkF m 47 #[.val (.ref a1), .val (.long q1), .second, .val (.long q2), .second, .val (.int p5), .val (.int (0 : Int32))] [(.long rb), (.ref a1)])) _
      refine XS.lconst X71.here hx rfl (hb hby d4_47) ?_
      show Steps p.tables e below (T71.setTop (mkF m 48 #[.val (.ref a1), .val (.long q1), .second, .val (.long q2), .second, .val (.int p5), .val (.int (0 : Int32))] [(.long (1 : Int64)), (.long rb), (.ref a1)])) _
      refine XS.ladd X71.here hx rfl (hb hby d4_48) rfl ?_
      show Steps p.tables e below (T71.setTop (mkF m 49 #[.val (.ref a1), .val (.long q1), .second, .val (.long q2), .second, .val (.int p5), .val (.int (0 : Int32))] [(.long (rb + (1 : Int64))), (.ref a1)])) _
      refine st73 _ ?_
      show Steps p.tables e below (T73.setTop (mkF m 52 #[.val (.ref a1), .val (.long q1), .second, .val (.long q2), .second, .val (.int p5), .val (.int (0 : Int32))] [])) _
      exact X73.returnOut hx hret0 (hb hby d4_52) hr
    · show QRec Z a1 xh xb kh kb q1 x1 q2 y1 1 (if p5 = (0 : Int32) then rb else rb + 1) h0 n0 _ T73.heap _
      rw [e73]
      exact ⟨rfl, N73, K75, ⟨f77, f78, f79, f80, by rw [if_neg hc]; exact f76⟩, f81, f82, hne⟩
theorem own_pn_rmRec1 : plainName "com/example/nosy_pool/nosypool/CheckoutHistory" = true := by first | (simp [plainName, overriddenIn]; done) | decide +kernel
theorem own_ef_rmRec1 (m : MethodId) (a1 : Addr) (q1 : Int64) (q2 : Int64) (p5 : Int32) : entryFrame m #[(.ref a1), (.long q1), (.long q2), (.int p5)] 7 = (mkF m 0 #[.val (.ref a1), .val (.long q1), .second, .val (.long q2), .second, .val (.int p5), .unset] []) := by first | (simp [entryFrame, mkF, argsToLocals, Value.category]; done) | rfl
set_option maxRecDepth 65536 in
set_option maxHeartbeats 40000000 in
theorem rmRec1 (l : Launch) (Z : State) (a0 : Array Value) (hw : ∀ d ∈ tables_1, d.before a0 Z = true) (ws : List Jvm.Cond) (a1 : Addr) (xh : Addr) (xb : Addr) (kh : ClassId) (kb : ClassId) (x0 : Int64) (x1 : Int64) (y0 : Int64) (y1 : Int64) (rb : Int64) (q1 : Int64) (q2 : Int64) (p5 : Int32) (h0 : Heap) (n0 : Nat) (Z0 : n0 ≤ h0.size) (ge1 : n0 ≤ a1) (ge2 : n0 ≤ xh) (ge3 : n0 ≤ xb) (HH : own_Hist Z h0 a1 xh xb kh kb x0 x1 y0 y1 1 rb) :
    MetFree l (⟨"com/example/nosy_pool/nosypool/CheckoutHistory", "record", "(JJZ)V"⟩ : MethodName) (head1 (Jvm.Cond.code (⟨"com/example/nosy_pool/nosypool/CheckoutHistory", "record", "(JJZ)V"⟩ : MethodName) prog_1_method_3_code 7 none :: ws) ({ frames := 0, cells := 0, slots := 0, locals := 0 } : Room)) (fun a U => a = #[(.ref a1), (.long q1), (.long q2), (.int p5)] ∧ Z.Warmed39 U.vm ∧ U.heap = h0) (fun _ _ _ _ _ => True) (fun _ U o U' => ∃ v L, o = .returned v ∧ QRec Z a1 xh xb kh kb x0 q1 y0 q2 2 (if p5 = (0 : Int32) then rb else rb + 1) h0 n0 v U'.heap L ∧ FrameEnd U o U' L ({ frames := 0, cells := 0, slots := 0, locals := 0 } : Room).cells ({ frames := 0, cells := 0, slots := 0, locals := 0 } : Room).slots) := by
  refine MetFree.of_bodySF (plainFor_of_name own_pn_rmRec1) hisR ?_
  intro p e s m args below meth c s₁ Bd hml0 hP hK
  obtain ⟨hargs, hZ, hh⟩ := hP
  have hx := Bd.exec
  have hby := Bd.bytes
  have hml : c.maxLocals = 7 := hml0
  have hown : s.vm.findClass "com/example/nosy_pool/nosypool/CheckoutHistory" = some m.cls := findClass_of_methodNamed Bd.named
  have hnm := (name_of_methodNamed Bd.named Bd.method).1
  have hlock : meth.locks = false := Bd.notSynchronized
  have hret0 := Bd.returns
  have X0 : Stand p l e ({ frames := 0, cells := 0, slots := 0, locals := 0 } : Room) s m args below meth c s₁ [] 0 0 := Stand.of_body Bd
  have e0 : s₁.heap = h0 := by rw [← hh, Bd.state]; rfl
  have N0 := Fr.nil n0
  have pre0 : ∀ t, Steps p.tables e below (s₁.setTop (mkF m 0 #[.val (.ref a1), .val (.long q1), .second, .val (.long q2), .second, .val (.int p5), .unset] [])) t → Steps p.tables e below (s₁.setTop (entryFrame m args 7)) t := fun t k => castTop (by rw [hargs]; exact own_ef_rmRec1 m a1 q1 q2 p5) k
  clear Bd
  obtain ⟨⟨Ex, F0, F1, F2, F3⟩, Vh, Vb, hne⟩ := HH
  have n1 : a1 ≠ xh := Exa.neArv (n := 4) Ex Vh (hw _ (List.mem_of_getElem? (i := 1) rfl))
  have n2 : a1 ≠ xb := Exa.neArv (n := 4) Ex Vb (hw _ (List.mem_of_getElem? (i := 1) rfl))
  obtain ⟨T83, X83, e83, st83⟩ := getF X0 hx hZ hown (host := "") (Or.inl (hw _ (List.mem_of_getElem? (i := 17) rfl))) Via.refl e0 F2 (g := (mkF m 1 #[.val (.ref a1), .val (.long q1), .second, .val (.long q2), .second, .val (.int p5), .unset] [(.ref a1)])) rfl rfl (hb hby d4_1)
  have st84 : ∀ target, Steps p.tables e below (T83.setTop (mkF m 11 #[.val (.ref a1), .val (.long q1), .second, .val (.long q2), .second, .val (.int p5), .val (.int (1 : Int32))] [])) target → Steps p.tables e below (T83.setTop (mkF m 9 #[.val (.ref a1), .val (.long q1), .second, .val (.long q2), .second, .val (.int p5), .unset] [(.int (((1 : Int64) - ((1 : Int64) / (1024 : Int64)) * (1024 : Int64)).toInt32))])) target := by
    rw [show (((1 : Int64) - ((1 : Int64) / (1024 : Int64)) * (1024 : Int64)).toInt32) = (1 : Int32) by decide]
    intro target hk
    show Steps p.tables e below (T83.setTop (mkF m 9 #[.val (.ref a1), .val (.long q1), .second, .val (.long q2), .second, .val (.int p5), .unset] [(.int (1 : Int32))])) _
    refine XS.istore X83.here hx rfl (hb hby d4_9) rfl (l' := #[.val (.ref a1), .val (.long q1), .second, .val (.long q2), .second, .val (.int p5), .val (.int (1 : Int32))]) rfl ?_
    exact hk
  obtain ⟨T85, X85, e85, st85⟩ := getF X83 hx hZ hown (host := "") (Or.inl (hw _ (List.mem_of_getElem? (i := 13) rfl))) Via.refl e83 F0 (g := (mkF m 12 #[.val (.ref a1), .val (.long q1), .second, .val (.long q2), .second, .val (.int p5), .val (.int (1 : Int32))] [(.ref a1)])) rfl rfl (hb hby d4_12)
  obtain ⟨cl86, Ar86, q86, S86, M86, Hs86, G86⟩ := id Vh
  obtain ⟨T86, h86, X86, e86, W86, st86⟩ := stJ X85 hx hZ e85 Ar86 (j := (1 : Int32)) (inb_of S86 ⟨(by decide), (by decide)⟩) (g := (mkF m 18 #[.val (.ref a1), .val (.long q1), .second, .val (.long q2), .second, .val (.int p5), .val (.int (1 : Int32))] [(.long q1), (.int (1 : Int32)), (.ref xh)])) rfl rfl (hb hby d4_18)
  have Z87 : n0 ≤ h86.size := Nat.le_trans Z0 (Keep.of_wr W86).1
  have K88 : Keep h0 h86 [a1, xh, xb] := (Keep.refl h0 [a1, xh, xb]).wr W86 (Or.inl (List.mem_of_getElem? (i := 1) rfl))
  have N86 := Fr.snoc X86 N0 ge2
  have V86 : Arv Z h86 xh kh .long (1024 : Int32) [(.long x0), (.long q1)] (.long (0 : Int64)) := Arv.set Ar86 q86 S86 M86 Hs86 G86 rfl W86 1 rfl (Nat.le_of_ble_eq_true rfl)
  have f89 := (F1.other W86 (Or.inl n1))
  obtain ⟨T90, X90, e90, st90⟩ := getF X86 hx hZ hown (host := "") (Or.inl (hw _ (List.mem_of_getElem? (i := 15) rfl))) Via.refl e86 f89 (g := (mkF m 20 #[.val (.ref a1), .val (.long q1), .second, .val (.long q2), .second, .val (.int p5), .val (.int (1 : Int32))] [(.ref a1)])) rfl rfl (hb hby d4_20)
  have f92 := (Vb.other W86 (Ne.symm hne))
  obtain ⟨cl91, Ar91, q91, S91, M91, Hs91, G91⟩ := id f92
  obtain ⟨T91, h91, X91, e91, W91, st91⟩ := stJ X90 hx hZ e90 Ar91 (j := (1 : Int32)) (inb_of S91 ⟨(by decide), (by decide)⟩) (g := (mkF m 26 #[.val (.ref a1), .val (.long q1), .second, .val (.long q2), .second, .val (.int p5), .val (.int (1 : Int32))] [(.long q2), (.int (1 : Int32)), (.ref xb)])) rfl rfl (hb hby d4_26)
  have Z93 : n0 ≤ h91.size := Nat.le_trans Z87 (Keep.of_wr W91).1
  have K94 : Keep h0 h91 [a1, xh, xb] := K88.wr W91 (Or.inl (List.mem_of_getElem? (i := 2) rfl))
  have N91 := Fr.snoc X91 N86 ge3
  have V91 : Arv Z h91 xb kb .long (1024 : Int32) [(.long y0), (.long q2)] (.long (0 : Int64)) := Arv.set Ar91 q91 S91 M91 Hs91 G91 rfl W91 1 rfl (Nat.le_of_ble_eq_true rfl)
  have f95 := ((F2.other W86 (Or.inl n1)).other W91 (Or.inl n2))
  obtain ⟨T96, X96, e96, st96⟩ := getF X91 hx hZ hown (host := "") (Or.inl (hw _ (List.mem_of_getElem? (i := 17) rfl))) Via.refl e91 f95 (g := (mkF m 29 #[.val (.ref a1), .val (.long q1), .second, .val (.long q2), .second, .val (.int p5), .val (.int (1 : Int32))] [(.ref a1), (.ref a1)])) rfl rfl (hb hby d4_29)
  have f97 := ((Ex.wr W86).wr W91)
  obtain ⟨T98, h98, X98, e98, W98, st98⟩ := putF X96 hx hZ hown (host := "") (Or.inl (hw _ (List.mem_of_getElem? (i := 17) rfl))) Via.refl e96 f95 f97 (Or.inl (hw _ (List.mem_of_getElem? (i := 18) rfl))) (hw _ (List.mem_of_getElem? (i := 1) rfl)) (ty := .long) (by decide) rfl rfl (g := (mkF m 34 #[.val (.ref a1), .val (.long q1), .second, .val (.long q2), .second, .val (.int p5), .val (.int (1 : Int32))] [(.long ((1 : Int64) + (1 : Int64))), (.ref a1)])) rfl rfl (hb hby d4_34)
  have Z99 : n0 ≤ h98.size := Nat.le_trans Z93 (Keep.of_wr W98).1
  have K100 : Keep h0 h98 [a1, xh, xb] := K94.wr W98 (Or.inl (List.mem_of_getElem? (i := 0) rfl))
  have N98 := Fr.snoc X98 N91 ge1
  have f101 := f95.same W98
  by_cases hc : p5 = (0 : Int32)
  · skip
    have f102 := (f97.wr W98)
    have f103 := (((F0.other W86 (Or.inl n1)).other W91 (Or.inl n2)).other W98 (Or.inr (slot_ne (Or.inr (hw _ (List.mem_of_getElem? (i := 14) rfl))) (Or.inl (hw _ (List.mem_of_getElem? (i := 18) rfl))) (by decide) (t := (.array .long)) (t' := .long) (by decide) (by decide))))
    have f104 := ((f89.other W91 (Or.inl n2)).other W98 (Or.inr (slot_ne (Or.inr (hw _ (List.mem_of_getElem? (i := 16) rfl))) (Or.inl (hw _ (List.mem_of_getElem? (i := 18) rfl))) (by decide) (t := (.array .long)) (t' := .long) (by decide) (by decide))))
    have f105 := (((F3.other W86 (Or.inl n1)).other W91 (Or.inl n2)).other W98 (Or.inr (slot_ne (Or.inl (hw _ (List.mem_of_getElem? (i := 20) rfl))) (Or.inl (hw _ (List.mem_of_getElem? (i := 18) rfl))) (by decide) (t := .long) (t' := .long) (by decide) (by decide))))
    have f106 := ((V86.other W91 hne).other W98 (Ne.symm n1))
    have f107 := (V91.other W98 (Ne.symm n2))
    obtain ⟨fs, hr, hrun, hended, hW, hsame⟩ := X98.leave (v := none) (fun _ => rfl)
    refine ⟨_, _, pre0 _ ?_, hrun, hended, _, _, rfl, ?_, ⟨_, rfl⟩, hW, hsame.mono (by decide) (by decide)⟩
    · show Steps p.tables e below (s₁.setTop (mkF m 0 #[.val (.ref a1), .val (.long q1), .second, .val (.long q2), .second, .val (.int p5), .unset] [])) _
      refine XS.aloadN X0.here hx rfl (hb hby d4_0) rfl rfl ?_
      show Steps p.tables e below (s₁.setTop (mkF m 1 #[.val (.ref a1), .val (.long q1), .second, .val (.long q2), .second, .val (.int p5), .unset] [(.ref a1)])) _
      refine st83 _ ?_
      show Steps p.tables e below (T83.setTop (mkF m 4 #[.val (.ref a1), .val (.long q1), .second, .val (.long q2), .second, .val (.int p5), .unset] [(.long (1 : Int64))])) _
      refine X83.ldc2Long hx hown (mvT hZ (hw _ (List.mem_of_getElem? (i := 26) rfl))) (g := (mkF m 4 #[.val (.ref a1), .val (.long q1), .second, .val (.long q2), .second, .val (.int p5), .unset] [(.long (1 : Int64))])) rfl (hb hby d4_4) _ ?_
      show Steps p.tables e below (T83.setTop (mkF m 7 #[.val (.ref a1), .val (.long q1), .second, .val (.long q2), .second, .val (.int p5), .unset] [(.long (1024 : Int64)), (.long (1 : Int64))])) _
      refine XS.lrem X83.here hx rfl (hb hby d4_7) rfl (by decide) ?_
      show Steps p.tables e below (T83.setTop (mkF m 8 #[.val (.ref a1), .val (.long q1), .second, .val (.long q2), .second, .val (.int p5), .unset] [(.long ((1 : Int64) - ((1 : Int64) / (1024 : Int64)) * (1024 : Int64)))])) _
      refine XS.l2i X83.here hx rfl (hb hby d4_8) rfl ?_
      show Steps p.tables e below (T83.setTop (mkF m 9 #[.val (.ref a1), .val (.long q1), .second, .val (.long q2), .second, .val (.int p5), .unset] [(.int (((1 : Int64) - ((1 : Int64) / (1024 : Int64)) * (1024 : Int64)).toInt32))])) _
      refine st84 _ ?_
      show Steps p.tables e below (T83.setTop (mkF m 11 #[.val (.ref a1), .val (.long q1), .second, .val (.long q2), .second, .val (.int p5), .val (.int (1 : Int32))] [])) _
      refine XS.aloadN X83.here hx rfl (hb hby d4_11) rfl rfl ?_
      show Steps p.tables e below (T83.setTop (mkF m 12 #[.val (.ref a1), .val (.long q1), .second, .val (.long q2), .second, .val (.int p5), .val (.int (1 : Int32))] [(.ref a1)])) _
      refine st85 _ ?_
      show Steps p.tables e below (T85.setTop (mkF m 15 #[.val (.ref a1), .val (.long q1), .second, .val (.long q2), .second, .val (.int p5), .val (.int (1 : Int32))] [(.ref xh)])) _
      refine XS.iload X85.here hx rfl (hb hby d4_15) rfl ?_
      show Steps p.tables e below (T85.setTop (mkF m 17 #[.val (.ref a1), .val (.long q1), .second, .val (.long q2), .second, .val (.int p5), .val (.int (1 : Int32))] [(.int (1 : Int32)), (.ref xh)])) _
      refine XS.lloadN X85.here hx rfl (hb hby d4_17) rfl ?_
      show Steps p.tables e below (T85.setTop (mkF m 18 #[.val (.ref a1), .val (.long q1), .second, .val (.long q2), .second, .val (.int p5), .val (.int (1 : Int32))] [(.long q1), (.int (1 : Int32)), (.ref xh)])) _
      refine st86 _ ?_
      show Steps p.tables e below (T86.setTop (mkF m 19 #[.val (.ref a1), .val (.long q1), .second, .val (.long q2), .second, .val (.int p5), .val (.int (1 : Int32))] [])) _
      refine XS.aloadN X86.here hx rfl (hb hby d4_19) rfl rfl ?_
      show Steps p.tables e below (T86.setTop (mkF m 20 #[.val (.ref a1), .val (.long q1), .second, .val (.long q2), .second, .val (.int p5), .val (.int (1 : Int32))] [(.ref a1)])) _
      refine st90 _ ?_
      show Steps p.tables e below (T90.setTop (mkF m 23 #[.val (.ref a1), .val (.long q1), .second, .val (.long q2), .second, .val (.int p5), .val (.int (1 : Int32))] [(.ref xb)])) _
      refine XS.iload X90.here hx rfl (hb hby d4_23) rfl ?_
      show Steps p.tables e below (T90.setTop (mkF m 25 #[.val (.ref a1), .val (.long q1), .second, .val (.long q2), .second, .val (.int p5), .val (.int (1 : Int32))] [(.int (1 : Int32)), (.ref xb)])) _
      refine XS.lloadN X90.here hx rfl (hb hby d4_25) rfl ?_
      show Steps p.tables e below (T90.setTop (mkF m 26 #[.val (.ref a1), .val (.long q1), .second, .val (.long q2), .second, .val (.int p5), .val (.int (1 : Int32))] [(.long q2), (.int (1 : Int32)), (.ref xb)])) _
      refine st91 _ ?_
      show Steps p.tables e below (T91.setTop (mkF m 27 #[.val (.ref a1), .val (.long q1), .second, .val (.long q2), .second, .val (.int p5), .val (.int (1 : Int32))] [])) _
      refine XS.aloadN X91.here hx rfl (hb hby d4_27) rfl rfl ?_
      show Steps p.tables e below (T91.setTop (mkF m 28 #[.val (.ref a1), .val (.long q1), .second, .val (.long q2), .second, .val (.int p5), .val (.int (1 : Int32))] [(.ref a1)])) _
      refine XS.dup X91.here hx rfl (hb hby d4_28) rfl rfl ?_
      show Steps p.tables e below (T91.setTop (mkF m 29 #[.val (.ref a1), .val (.long q1), .second, .val (.long q2), .second, .val (.int p5), .val (.int (1 : Int32))] [(.ref a1), (.ref a1)])) _
      refine st96 _ ?_
      show Steps p.tables e below (T96.setTop (mkF m 32 #[.val (.ref a1), .val (.long q1), .second, .val (.long q2), .second, .val (.int p5), .val (.int (1 : Int32))] [(.long (1 : Int64)), (.ref a1)])) _
      refine XS.lconst X96.here hx rfl (hb hby d4_32) ?_
      show Steps p.tables e below (T96.setTop (mkF m 33 #[.val (.ref a1), .val (.long q1), .second, .val (.long q2), .second, .val (.int p5), .val (.int (1 : Int32))] [(.long (1 : Int64)), (.long (1 : Int64)), (.ref a1)])) _
      refine XS.ladd X96.here hx rfl (hb hby d4_33) rfl ?_
      show Steps p.tables e below (T96.setTop (mkF m 34 #[.val (.ref a1), .val (.long q1), .second, .val (.long q2), .second, .val (.int p5), .val (.int (1 : Int32))] [(.long ((1 : Int64) + (1 : Int64))), (.ref a1)])) _
      refine st98 _ ?_
      show Steps p.tables e below (T98.setTop (mkF m 37 #[.val (.ref a1), .val (.long q1), .second, .val (.long q2), .second, .val (.int p5), .val (.int (1 : Int32))] [])) _
      refine XS.iload X98.here hx rfl (hb hby d4_37) rfl ?_
      show Steps p.tables e below (T98.setTop (mkF m 39 #[.val (.ref a1), .val (.long q1), .second, .val (.long q2), .second, .val (.int p5), .val (.int (1 : Int32))] [(.int p5)])) _
      refine XS.ifYes X98.here hx rfl (pc0 := 39) (pc' := 52) rfl (hb hby d4_39) rfl ((if0 _ _).trans (teq hc).1) (by decide) (by decide) ?_
      show Steps p.tables e below (T98.setTop (mkF m 52 #[.val (.ref a1), .val (.long q1), .second, .val (.long q2), .second, .val (.int p5), .val (.int (1 : Int32))] [])) _
      exact X98.returnOut hx hret0 (hb hby d4_52) hr
    · show QRec Z a1 xh xb kh kb x0 q1 y0 q2 2 (if p5 = (0 : Int32) then rb else rb + 1) h0 n0 _ T98.heap _
      rw [e98]
      exact ⟨rfl, N98, K100, ⟨f102, f103, f104, f101, by rw [if_pos hc]; exact f105⟩, f106, f107, hne⟩
  · skip
    have f108 := (((F3.other W86 (Or.inl n1)).other W91 (Or.inl n2)).other W98 (Or.inr (slot_ne (Or.inl (hw _ (List.mem_of_getElem? (i := 20) rfl))) (Or.inl (hw _ (List.mem_of_getElem? (i := 18) rfl))) (by decide) (t := .long) (t' := .long) (by decide) (by decide))))
    obtain ⟨T109, X109, e109, st109⟩ := getF X98 hx hZ hown (host := "") (Or.inl (hw _ (List.mem_of_getElem? (i := 19) rfl))) Via.refl e98 f108 (g := (mkF m 44 #[.val (.ref a1), .val (.long q1), .second, .val (.long q2), .second, .val (.int p5), .val (.int (1 : Int32))] [(.ref a1), (.ref a1)])) rfl rfl (hb hby d4_44)
    have f110 := (f97.wr W98)
    obtain ⟨T111, h111, X111, e111, W111, st111⟩ := putF X109 hx hZ hown (host := "") (Or.inl (hw _ (List.mem_of_getElem? (i := 19) rfl))) Via.refl e109 f108 f110 (Or.inl (hw _ (List.mem_of_getElem? (i := 20) rfl))) (hw _ (List.mem_of_getElem? (i := 1) rfl)) (ty := .long) (by decide) rfl rfl (g := (mkF m 49 #[.val (.ref a1), .val (.long q1), .second, .val (.long q2), .second, .val (.int p5), .val (.int (1 : Int32))] [(.long (rb + (1 : Int64))), (.ref a1)])) rfl rfl (hb hby d4_49)
    have Z112 : n0 ≤ h111.size := Nat.le_trans Z99 (Keep.of_wr W111).1
    have K113 : Keep h0 h111 [a1, xh, xb] := K100.wr W111 (Or.inl (List.mem_of_getElem? (i := 0) rfl))
    have N111 := Fr.snoc X111 N98 ge1
    have f114 := f108.same W111
    have f115 := (f110.wr W111)
    have f116 := ((((F0.other W86 (Or.inl n1)).other W91 (Or.inl n2)).other W98 (Or.inr (slot_ne (Or.inr (hw _ (List.mem_of_getElem? (i := 14) rfl))) (Or.inl (hw _ (List.mem_of_getElem? (i := 18) rfl))) (by decide) (t := (.array .long)) (t' := .long) (by decide) (by decide)))).other W111 (Or.inr (slot_ne (Or.inr (hw _ (List.mem_of_getElem? (i := 14) rfl))) (Or.inl (hw _ (List.mem_of_getElem? (i := 20) rfl))) (by decide) (t := (.array .long)) (t' := .long) (by decide) (by decide))))
    have f117 := (((f89.other W91 (Or.inl n2)).other W98 (Or.inr (slot_ne (Or.inr (hw _ (List.mem_of_getElem? (i := 16) rfl))) (Or.inl (hw _ (List.mem_of_getElem? (i := 18) rfl))) (by decide) (t := (.array .long)) (t' := .long) (by decide) (by decide)))).other W111 (Or.inr (slot_ne (Or.inr (hw _ (List.mem_of_getElem? (i := 16) rfl))) (Or.inl (hw _ (List.mem_of_getElem? (i := 20) rfl))) (by decide) (t := (.array .long)) (t' := .long) (by decide) (by decide))))
    have f118 := (f101.other W111 (Or.inr (slot_ne (Or.inl (hw _ (List.mem_of_getElem? (i := 18) rfl))) (Or.inl (hw _ (List.mem_of_getElem? (i := 20) rfl))) (by decide) (t := .long) (t' := .long) (by decide) (by decide))))
    have f119 := (((V86.other W91 hne).other W98 (Ne.symm n1)).other W111 (Ne.symm n1))
    have f120 := ((V91.other W98 (Ne.symm n2)).other W111 (Ne.symm n2))
    obtain ⟨fs, hr, hrun, hended, hW, hsame⟩ := X111.leave (v := none) (fun _ => rfl)
    refine ⟨_, _, pre0 _ ?_, hrun, hended, _, _, rfl, ?_, ⟨_, rfl⟩, hW, hsame.mono (by decide) (by decide)⟩
    · show Steps p.tables e below (s₁.setTop (mkF m 0 #[.val (.ref a1), .val (.long q1), .second, .val (.long q2), .second, .val (.int p5), .unset] [])) _
      refine XS.aloadN X0.here hx rfl (hb hby d4_0) rfl rfl ?_
      show Steps p.tables e below (s₁.setTop (mkF m 1 #[.val (.ref a1), .val (.long q1), .second, .val (.long q2), .second, .val (.int p5), .unset] [(.ref a1)])) _
      refine st83 _ ?_
      show Steps p.tables e below (T83.setTop (mkF m 4 #[.val (.ref a1), .val (.long q1), .second, .val (.long q2), .second, .val (.int p5), .unset] [(.long (1 : Int64))])) _
      refine X83.ldc2Long hx hown (mvT hZ (hw _ (List.mem_of_getElem? (i := 26) rfl))) (g := (mkF m 4 #[.val (.ref a1), .val (.long q1), .second, .val (.long q2), .second, .val (.int p5), .unset] [(.long (1 : Int64))])) rfl (hb hby d4_4) _ ?_
      show Steps p.tables e below (T83.setTop (mkF m 7 #[.val (.ref a1), .val (.long q1), .second, .val (.long q2), .second, .val (.int p5), .unset] [(.long (1024 : Int64)), (.long (1 : Int64))])) _
      refine XS.lrem X83.here hx rfl (hb hby d4_7) rfl (by decide) ?_
      show Steps p.tables e below (T83.setTop (mkF m 8 #[.val (.ref a1), .val (.long q1), .second, .val (.long q2), .second, .val (.int p5), .unset] [(.long ((1 : Int64) - ((1 : Int64) / (1024 : Int64)) * (1024 : Int64)))])) _
      refine XS.l2i X83.here hx rfl (hb hby d4_8) rfl ?_
      show Steps p.tables e below (T83.setTop (mkF m 9 #[.val (.ref a1), .val (.long q1), .second, .val (.long q2), .second, .val (.int p5), .unset] [(.int (((1 : Int64) - ((1 : Int64) / (1024 : Int64)) * (1024 : Int64)).toInt32))])) _
      refine st84 _ ?_
      show Steps p.tables e below (T83.setTop (mkF m 11 #[.val (.ref a1), .val (.long q1), .second, .val (.long q2), .second, .val (.int p5), .val (.int (1 : Int32))] [])) _
      refine XS.aloadN X83.here hx rfl (hb hby d4_11) rfl rfl ?_
      show Steps p.tables e below (T83.setTop (mkF m 12 #[.val (.ref a1), .val (.long q1), .second, .val (.long q2), .second, .val (.int p5), .val (.int (1 : Int32))] [(.ref a1)])) _
      refine st85 _ ?_
      show Steps p.tables e below (T85.setTop (mkF m 15 #[.val (.ref a1), .val (.long q1), .second, .val (.long q2), .second, .val (.int p5), .val (.int (1 : Int32))] [(.ref xh)])) _
      refine XS.iload X85.here hx rfl (hb hby d4_15) rfl ?_
      show Steps p.tables e below (T85.setTop (mkF m 17 #[.val (.ref a1), .val (.long q1), .second, .val (.long q2), .second, .val (.int p5), .val (.int (1 : Int32))] [(.int (1 : Int32)), (.ref xh)])) _
      refine XS.lloadN X85.here hx rfl (hb hby d4_17) rfl ?_
      show Steps p.tables e below (T85.setTop (mkF m 18 #[.val (.ref a1), .val (.long q1), .second, .val (.long q2), .second, .val (.int p5), .val (.int (1 : Int32))] [(.long q1), (.int (1 : Int32)), (.ref xh)])) _
      refine st86 _ ?_
      show Steps p.tables e below (T86.setTop (mkF m 19 #[.val (.ref a1), .val (.long q1), .second, .val (.long q2), .second, .val (.int p5), .val (.int (1 : Int32))] [])) _
      refine XS.aloadN X86.here hx rfl (hb hby d4_19) rfl rfl ?_
      show Steps p.tables e below (T86.setTop (mkF m 20 #[.val (.ref a1), .val (.long q1), .second, .val (.long q2), .second, .val (.int p5), .val (.int (1 : Int32))] [(.ref a1)])) _
      refine st90 _ ?_
      show Steps p.tables e below (T90.setTop (mkF m 23 #[.val (.ref a1), .val (.long q1), .second, .val (.long q2), .second, .val (.int p5), .val (.int (1 : Int32))] [(.ref xb)])) _
      refine XS.iload X90.here hx rfl (hb hby d4_23) rfl ?_
      show Steps p.tables e below (T90.setTop (mkF m 25 #[.val (.ref a1), .val (.long q1), .second, .val (.long q2), .second, .val (.int p5), .val (.int (1 : Int32))] [(.int (1 : Int32)), (.ref xb)])) _
      refine XS.lloadN X90.here hx rfl (hb hby d4_25) rfl ?_
      show Steps p.tables e below (T90.setTop (mkF m 26 #[.val (.ref a1), .val (.long q1), .second, .val (.long q2), .second, .val (.int p5), .val (.int (1 : Int32))] [(.long q2), (.int (1 : Int32)), (.ref xb)])) _
      refine st91 _ ?_
      show Steps p.tables e below (T91.setTop (mkF m 27 #[.val (.ref a1), .val (.long q1), .second, .val (.long q2), .second, .val (.int p5), .val (.int (1 : Int32))] [])) _
      refine XS.aloadN X91.here hx rfl (hb hby d4_27) rfl rfl ?_
      show Steps p.tables e below (T91.setTop (mkF m 28 #[.val (.ref a1), .val (.long q1), .second, .val (.long q2), .second, .val (.int p5), .val (.int (1 : Int32))] [(.ref a1)])) _
      refine XS.dup X91.here hx rfl (hb hby d4_28) rfl rfl ?_
      show Steps p.tables e below (T91.setTop (mkF m 29 #[.val (.ref a1), .val (.long q1), .second, .val (.long q2), .second, .val (.int p5), .val (.int (1 : Int32))] [(.ref a1), (.ref a1)])) _
      refine st96 _ ?_
      show Steps p.tables e below (T96.setTop (mkF m 32 #[.val (.ref a1), .val (.long q1), .second, .val (.long q2), .second, .val (.int p5), .val (.int (1 : Int32))] [(.long (1 : Int64)), (.ref a1)])) _
      refine XS.lconst X96.here hx rfl (hb hby d4_32) ?_
      show Steps p.tables e below (T96.setTop (mkF m 33 #[.val (.ref a1), .val (.long q1), .second, .val (.long q2), .second, .val (.int p5), .val (.int (1 : Int32))] [(.long (1 : Int64)), (.long (1 : Int64)), (.ref a1)])) _
      refine XS.ladd X96.here hx rfl (hb hby d4_33) rfl ?_
      show Steps p.tables e below (T96.setTop (mkF m 34 #[.val (.ref a1), .val (.long q1), .second, .val (.long q2), .second, .val (.int p5), .val (.int (1 : Int32))] [(.long ((1 : Int64) + (1 : Int64))), (.ref a1)])) _
      refine st98 _ ?_
      show Steps p.tables e below (T98.setTop (mkF m 37 #[.val (.ref a1), .val (.long q1), .second, .val (.long q2), .second, .val (.int p5), .val (.int (1 : Int32))] [])) _
      refine XS.iload X98.here hx rfl (hb hby d4_37) rfl ?_
      show Steps p.tables e below (T98.setTop (mkF m 39 #[.val (.ref a1), .val (.long q1), .second, .val (.long q2), .second, .val (.int p5), .val (.int (1 : Int32))] [(.int p5)])) _
      refine XS.ifNo X98.here hx rfl (hb hby d4_39) rfl ((if0 _ _).trans (feq hc).1) ?_
      show Steps p.tables e below (T98.setTop (mkF m 42 #[.val (.ref a1), .val (.long q1), .second, .val (.long q2), .second, .val (.int p5), .val (.int (1 : Int32))] [])) _
      refine XS.aloadN X98.here hx rfl (hb hby d4_42) rfl rfl ?_
      show Steps p.tables e below (T98.setTop (mkF m 43 #[.val (.ref a1), .val (.long q1), .second, .val (.long q2), .second, .val (.int p5), .val (.int (1 : Int32))] [(.ref a1)])) _
      refine XS.dup X98.here hx rfl (hb hby d4_43) rfl rfl ?_
      show Steps p.tables e below (T98.setTop (mkF m 44 #[.val (.ref a1), .val (.long q1), .second, .val (.long q2), .second, .val (.int p5), .val (.int (1 : Int32))] [(.ref a1), (.ref a1)])) _
      refine st109 _ ?_
      show Steps p.tables e below (T109.setTop (mkF m 47 #[.val (.ref a1), .val (.long q1), .second, .val (.long q2), .second, .val (.int p5), .val (.int (1 : Int32))] [(.long rb), (.ref a1)])) _
      refine XS.lconst X109.here hx rfl (hb hby d4_47) ?_
      show Steps p.tables e below (T109.setTop (mkF m 48 #[.val (.ref a1), .val (.long q1), .second, .val (.long q2), .second, .val (.int p5), .val (.int (1 : Int32))] [(.long (1 : Int64)), (.long rb), (.ref a1)])) _
      refine XS.ladd X109.here hx rfl (hb hby d4_48) rfl ?_
      show Steps p.tables e below (T109.setTop (mkF m 49 #[.val (.ref a1), .val (.long q1), .second, .val (.long q2), .second, .val (.int p5), .val (.int (1 : Int32))] [(.long (rb + (1 : Int64))), (.ref a1)])) _
      refine st111 _ ?_
      show Steps p.tables e below (T111.setTop (mkF m 52 #[.val (.ref a1), .val (.long q1), .second, .val (.long q2), .second, .val (.int p5), .val (.int (1 : Int32))] [])) _
      exact X111.returnOut hx hret0 (hb hby d4_52) hr
    · show QRec Z a1 xh xb kh kb x0 q1 y0 q2 2 (if p5 = (0 : Int32) then rb else rb + 1) h0 n0 _ T111.heap _
      rw [e111]
      exact ⟨rfl, N111, K113, ⟨f115, f116, f117, f118, by rw [if_neg hc]; exact f114⟩, f119, f120, hne⟩
theorem d6_0 : decode jdk_29_method_70_code 0 = .ok (.lload_n 0, 1) := by decide +kernel
theorem d6_1 : decode jdk_29_method_70_code 1 = .ok (.lload_n 2, 1) := by decide +kernel
theorem d6_2 : decode jdk_29_method_70_code 2 = .ok (.lcmp, 1) := by decide +kernel
theorem d6_3 : decode jdk_29_method_70_code 3 = .ok (.ifCond .gt 7, 3) := by decide +kernel
theorem d6_6 : decode jdk_29_method_70_code 6 = .ok (.lload_n 0, 1) := by decide +kernel
theorem d6_7 : decode jdk_29_method_70_code 7 = .ok (.goto 4, 3) := by decide +kernel
theorem d6_10 : decode jdk_29_method_70_code 10 = .ok (.lload_n 2, 1) := by decide +kernel
theorem d6_11 : decode jdk_29_method_70_code 11 = .ok (.lreturn, 1) := by decide +kernel
def QJmin (p0 p1 : Int64) (h0 : Heap) (n0 : Nat) (v : Option Value) (h : Heap) (L : List Loc) : Prop := v = some (.long (if p1 < p0 then p1 else p0)) ∧ Fr n0 L ∧ h = h0
theorem own_ef_rmJmin (m : MethodId) (p0 : Int64) (p1 : Int64) : entryFrame m #[(.long p0), (.long p1)] 4 = (mkF m 0 #[.val (.long p0), .second, .val (.long p1), .second] []) := by first | (simp [entryFrame, mkF, argsToLocals, Value.category]; done) | rfl
set_option maxRecDepth 65536 in
set_option maxHeartbeats 40000000 in
theorem rmJmin (l : Launch) (Z : State) (a0 : Array Value) (hw : ∀ d ∈ tables_1, d.before a0 Z = true) (ws : List Jvm.Cond) (p0 : Int64) (p1 : Int64) (h0 : Heap) (n0 : Nat) (Z0 : n0 ≤ h0.size) :
    MetFree l (⟨"java/lang/Math", "min", "(JJ)J"⟩ : MethodName) (head1 (Jvm.Cond.code (⟨"java/lang/Math", "min", "(JJ)J"⟩ : MethodName) jdk_29_method_70_code 4 (some .long) :: ws) ({ frames := 0, cells := 0, slots := 0, locals := 0 } : Room)) (fun a U => a = #[(.long p0), (.long p1)] ∧ Z.Warmed39 U.vm ∧ U.heap = h0) (fun _ _ _ _ _ => True) (fun _ U o U' => ∃ v L, o = .returned v ∧ QJmin p0 p1 h0 n0 v U'.heap L ∧ FrameEnd U o U' L ({ frames := 0, cells := 0, slots := 0, locals := 0 } : Room).cells ({ frames := 0, cells := 0, slots := 0, locals := 0 } : Room).slots) := by
  refine MetFree.of_bodySF (Jvm.Free.JP.mathPlain rfl (by decide +kernel)) hisR ?_
  intro p e s m args below meth c s₁ Bd hml0 hP hK
  obtain ⟨hargs, hZ, hh⟩ := hP
  have hx := Bd.exec
  have hby := Bd.bytes
  have hml : c.maxLocals = 4 := hml0
  have hown : s.vm.findClass "java/lang/Math" = some m.cls := findClass_of_methodNamed Bd.named
  have hnm := (name_of_methodNamed Bd.named Bd.method).1
  have hlock : meth.locks = false := Bd.notSynchronized
  have hret0 := Bd.returns
  have X0 : Stand p l e ({ frames := 0, cells := 0, slots := 0, locals := 0 } : Room) s m args below meth c s₁ [] 0 0 := Stand.of_body Bd
  have e0 : s₁.heap = h0 := by rw [← hh, Bd.state]; rfl
  have N0 := Fr.nil n0
  have pre0 : ∀ t, Steps p.tables e below (s₁.setTop (mkF m 0 #[.val (.long p0), .second, .val (.long p1), .second] [])) t → Steps p.tables e below (s₁.setTop (entryFrame m args 4)) t := fun t k => castTop (by rw [hargs]; exact own_ef_rmJmin m p0 p1) k
  clear Bd
  by_cases hc : p1 < p0
  · skip
    obtain ⟨fs, hr, hrun, hended, hW, hsame⟩ := X0.leave (v := some (.long p1)) (fun h => by rw [hret0] at h; cases h)
    refine ⟨_, _, pre0 _ ?_, hrun, hended, _, _, rfl, ?_, ⟨_, rfl⟩, hW, hsame.mono (by decide) (by decide)⟩
    · show Steps p.tables e below (s₁.setTop (mkF m 0 #[.val (.long p0), .second, .val (.long p1), .second] [])) _
      refine XS.lloadN X0.here hx rfl (hb hby d6_0) rfl ?_
      show Steps p.tables e below (s₁.setTop (mkF m 1 #[.val (.long p0), .second, .val (.long p1), .second] [(.long p0)])) _
      refine XS.lloadN X0.here hx rfl (hb hby d6_1) rfl ?_
      show Steps p.tables e below (s₁.setTop (mkF m 2 #[.val (.long p0), .second, .val (.long p1), .second] [(.long p1), (.long p0)])) _
      refine XS.lcmp X0.here hx rfl (hb hby d6_2) rfl ?_
      show Steps p.tables e below (s₁.setTop (mkF m 3 #[.val (.long p0), .second, .val (.long p1), .second] [(.int (lcmpW p0 p1))])) _
      refine XS.ifYes X0.here hx rfl (pc0 := 3) (pc' := 10) rfl (hb hby d6_3) rfl ((if0 _ _).trans (tlt ((lw_gt _ _).mpr hc)).2.2.1) (by decide) (by decide) ?_
      show Steps p.tables e below (s₁.setTop (mkF m 10 #[.val (.long p0), .second, .val (.long p1), .second] [])) _
      refine XS.lloadN X0.here hx rfl (hb hby d6_10) rfl ?_
      show Steps p.tables e below (s₁.setTop (mkF m 11 #[.val (.long p0), .second, .val (.long p1), .second] [(.long p1)])) _
      exact retJ X0 hx hret0 (hb hby d6_11) hr
    · show QJmin p0 p1 h0 n0 _ s₁.heap _
      rw [e0]
      exact ⟨by rw [if_pos hc], N0, rfl⟩
  · skip
    obtain ⟨fs, hr, hrun, hended, hW, hsame⟩ := X0.leave (v := some (.long p0)) (fun h => by rw [hret0] at h; cases h)
    refine ⟨_, _, pre0 _ ?_, hrun, hended, _, _, rfl, ?_, ⟨_, rfl⟩, hW, hsame.mono (by decide) (by decide)⟩
    · show Steps p.tables e below (s₁.setTop (mkF m 0 #[.val (.long p0), .second, .val (.long p1), .second] [])) _
      refine XS.lloadN X0.here hx rfl (hb hby d6_0) rfl ?_
      show Steps p.tables e below (s₁.setTop (mkF m 1 #[.val (.long p0), .second, .val (.long p1), .second] [(.long p0)])) _
      refine XS.lloadN X0.here hx rfl (hb hby d6_1) rfl ?_
      show Steps p.tables e below (s₁.setTop (mkF m 2 #[.val (.long p0), .second, .val (.long p1), .second] [(.long p1), (.long p0)])) _
      refine XS.lcmp X0.here hx rfl (hb hby d6_2) rfl ?_
      show Steps p.tables e below (s₁.setTop (mkF m 3 #[.val (.long p0), .second, .val (.long p1), .second] [(.int (lcmpW p0 p1))])) _
      refine XS.ifNo X0.here hx rfl (hb hby d6_3) rfl ((if0 _ _).trans (flt (mt (lw_gt _ _).mp hc)).2.2.1) ?_
      show Steps p.tables e below (s₁.setTop (mkF m 6 #[.val (.long p0), .second, .val (.long p1), .second] [])) _
      refine XS.lloadN X0.here hx rfl (hb hby d6_6) rfl ?_
      show Steps p.tables e below (s₁.setTop (mkF m 7 #[.val (.long p0), .second, .val (.long p1), .second] [(.long p0)])) _
      refine XS.goto X0.here hx rfl (pc0 := 7) (pc' := 11) rfl (hb hby d6_7) (by decide) (by decide) ?_
      show Steps p.tables e below (s₁.setTop (mkF m 11 #[.val (.long p0), .second, .val (.long p1), .second] [(.long p0)])) _
      exact retJ X0 hx hret0 (hb hby d6_11) hr
    · show QJmin p0 p1 h0 n0 _ s₁.heap _
      rw [e0]
      exact ⟨by rw [if_neg hc], N0, rfl⟩
theorem d24_0 : decode jdk_29_method_66_code 0 = .ok (.lload_n 0, 1) := by decide +kernel
theorem d24_1 : decode jdk_29_method_66_code 1 = .ok (.lload_n 2, 1) := by decide +kernel
theorem d24_2 : decode jdk_29_method_66_code 2 = .ok (.lcmp, 1) := by decide +kernel
theorem d24_3 : decode jdk_29_method_66_code 3 = .ok (.ifCond .lt 7, 3) := by decide +kernel
theorem d24_6 : decode jdk_29_method_66_code 6 = .ok (.lload_n 0, 1) := by decide +kernel
theorem d24_7 : decode jdk_29_method_66_code 7 = .ok (.goto 4, 3) := by decide +kernel
theorem d24_10 : decode jdk_29_method_66_code 10 = .ok (.lload_n 2, 1) := by decide +kernel
theorem d24_11 : decode jdk_29_method_66_code 11 = .ok (.lreturn, 1) := by decide +kernel
def QJmax (p0 p1 : Int64) (h0 : Heap) (n0 : Nat) (v : Option Value) (h : Heap) (L : List Loc) : Prop := v = some (.long (if p0 < p1 then p1 else p0)) ∧ Fr n0 L ∧ h = h0
theorem own_ef_rmJmax (m : MethodId) (p0 : Int64) (p1 : Int64) : entryFrame m #[(.long p0), (.long p1)] 4 = (mkF m 0 #[.val (.long p0), .second, .val (.long p1), .second] []) := by first | (simp [entryFrame, mkF, argsToLocals, Value.category]; done) | rfl
set_option maxRecDepth 65536 in
set_option maxHeartbeats 40000000 in
theorem rmJmax (l : Launch) (Z : State) (a0 : Array Value) (hw : ∀ d ∈ tables_1, d.before a0 Z = true) (ws : List Jvm.Cond) (p0 : Int64) (p1 : Int64) (h0 : Heap) (n0 : Nat) (Z0 : n0 ≤ h0.size) :
    MetFree l (⟨"java/lang/Math", "max", "(JJ)J"⟩ : MethodName) (head1 (Jvm.Cond.code (⟨"java/lang/Math", "max", "(JJ)J"⟩ : MethodName) jdk_29_method_66_code 4 (some .long) :: ws) ({ frames := 0, cells := 0, slots := 0, locals := 0 } : Room)) (fun a U => a = #[(.long p0), (.long p1)] ∧ Z.Warmed39 U.vm ∧ U.heap = h0) (fun _ _ _ _ _ => True) (fun _ U o U' => ∃ v L, o = .returned v ∧ QJmax p0 p1 h0 n0 v U'.heap L ∧ FrameEnd U o U' L ({ frames := 0, cells := 0, slots := 0, locals := 0 } : Room).cells ({ frames := 0, cells := 0, slots := 0, locals := 0 } : Room).slots) := by
  refine MetFree.of_bodySF (Jvm.Free.JP.mathPlain rfl (by decide +kernel)) hisR ?_
  intro p e s m args below meth c s₁ Bd hml0 hP hK
  obtain ⟨hargs, hZ, hh⟩ := hP
  have hx := Bd.exec
  have hby := Bd.bytes
  have hml : c.maxLocals = 4 := hml0
  have hown : s.vm.findClass "java/lang/Math" = some m.cls := findClass_of_methodNamed Bd.named
  have hnm := (name_of_methodNamed Bd.named Bd.method).1
  have hlock : meth.locks = false := Bd.notSynchronized
  have hret0 := Bd.returns
  have X0 : Stand p l e ({ frames := 0, cells := 0, slots := 0, locals := 0 } : Room) s m args below meth c s₁ [] 0 0 := Stand.of_body Bd
  have e0 : s₁.heap = h0 := by rw [← hh, Bd.state]; rfl
  have N0 := Fr.nil n0
  have pre0 : ∀ t, Steps p.tables e below (s₁.setTop (mkF m 0 #[.val (.long p0), .second, .val (.long p1), .second] [])) t → Steps p.tables e below (s₁.setTop (entryFrame m args 4)) t := fun t k => castTop (by rw [hargs]; exact own_ef_rmJmax m p0 p1) k
  clear Bd
  by_cases hc : p0 < p1
  · skip
    obtain ⟨fs, hr, hrun, hended, hW, hsame⟩ := X0.leave (v := some (.long p1)) (fun h => by rw [hret0] at h; cases h)
    refine ⟨_, _, pre0 _ ?_, hrun, hended, _, _, rfl, ?_, ⟨_, rfl⟩, hW, hsame.mono (by decide) (by decide)⟩
    · show Steps p.tables e below (s₁.setTop (mkF m 0 #[.val (.long p0), .second, .val (.long p1), .second] [])) _
      refine XS.lloadN X0.here hx rfl (hb hby d24_0) rfl ?_
      show Steps p.tables e below (s₁.setTop (mkF m 1 #[.val (.long p0), .second, .val (.long p1), .second] [(.long p0)])) _
      refine XS.lloadN X0.here hx rfl (hb hby d24_1) rfl ?_
      show Steps p.tables e below (s₁.setTop (mkF m 2 #[.val (.long p0), .second, .val (.long p1), .second] [(.long p1), (.long p0)])) _
      refine XS.lcmp X0.here hx rfl (hb hby d24_2) rfl ?_
      show Steps p.tables e below (s₁.setTop (mkF m 3 #[.val (.long p0), .second, .val (.long p1), .second] [(.int (lcmpW p0 p1))])) _
      refine XS.ifYes X0.here hx rfl (pc0 := 3) (pc' := 10) rfl (hb hby d24_3) rfl ((if0 _ _).trans (tlt ((lw_lt _ _).mpr hc)).1) (by decide) (by decide) ?_
      show Steps p.tables e below (s₁.setTop (mkF m 10 #[.val (.long p0), .second, .val (.long p1), .second] [])) _
      refine XS.lloadN X0.here hx rfl (hb hby d24_10) rfl ?_
      show Steps p.tables e below (s₁.setTop (mkF m 11 #[.val (.long p0), .second, .val (.long p1), .second] [(.long p1)])) _
      exact retJ X0 hx hret0 (hb hby d24_11) hr
    · show QJmax p0 p1 h0 n0 _ s₁.heap _
      rw [e0]
      exact ⟨by rw [if_pos hc], N0, rfl⟩
  · skip
    obtain ⟨fs, hr, hrun, hended, hW, hsame⟩ := X0.leave (v := some (.long p0)) (fun h => by rw [hret0] at h; cases h)
    refine ⟨_, _, pre0 _ ?_, hrun, hended, _, _, rfl, ?_, ⟨_, rfl⟩, hW, hsame.mono (by decide) (by decide)⟩
    · show Steps p.tables e below (s₁.setTop (mkF m 0 #[.val (.long p0), .second, .val (.long p1), .second] [])) _
      refine XS.lloadN X0.here hx rfl (hb hby d24_0) rfl ?_
      show Steps p.tables e below (s₁.setTop (mkF m 1 #[.val (.long p0), .second, .val (.long p1), .second] [(.long p0)])) _
      refine XS.lloadN X0.here hx rfl (hb hby d24_1) rfl ?_
      show Steps p.tables e below (s₁.setTop (mkF m 2 #[.val (.long p0), .second, .val (.long p1), .second] [(.long p1), (.long p0)])) _
      refine XS.lcmp X0.here hx rfl (hb hby d24_2) rfl ?_
      show Steps p.tables e below (s₁.setTop (mkF m 3 #[.val (.long p0), .second, .val (.long p1), .second] [(.int (lcmpW p0 p1))])) _
      refine XS.ifNo X0.here hx rfl (hb hby d24_3) rfl ((if0 _ _).trans (flt (mt (lw_lt _ _).mp hc)).1) ?_
      show Steps p.tables e below (s₁.setTop (mkF m 6 #[.val (.long p0), .second, .val (.long p1), .second] [])) _
      refine XS.lloadN X0.here hx rfl (hb hby d24_6) rfl ?_
      show Steps p.tables e below (s₁.setTop (mkF m 7 #[.val (.long p0), .second, .val (.long p1), .second] [(.long p0)])) _
      refine XS.goto X0.here hx rfl (pc0 := 7) (pc' := 11) rfl (hb hby d24_7) (by decide) (by decide) ?_
      show Steps p.tables e below (s₁.setTop (mkF m 11 #[.val (.long p0), .second, .val (.long p1), .second] [(.long p0)])) _
      exact retJ X0 hx hret0 (hb hby d24_11) hr
    · show QJmax p0 p1 h0 n0 _ s₁.heap _
      rw [e0]
      exact ⟨by rw [if_neg hc], N0, rfl⟩
theorem d8_0 : decode jdk_29_method_69_code 0 = .ok (.iload_n 0, 1) := by decide +kernel
theorem d8_1 : decode jdk_29_method_69_code 1 = .ok (.iload_n 1, 1) := by decide +kernel
theorem d8_2 : decode jdk_29_method_69_code 2 = .ok (.if_icmp .gt 7, 3) := by decide +kernel
theorem d8_5 : decode jdk_29_method_69_code 5 = .ok (.iload_n 0, 1) := by decide +kernel
theorem d8_6 : decode jdk_29_method_69_code 6 = .ok (.goto 4, 3) := by decide +kernel
theorem d8_9 : decode jdk_29_method_69_code 9 = .ok (.iload_n 1, 1) := by decide +kernel
theorem d8_10 : decode jdk_29_method_69_code 10 = .ok (.ireturn, 1) := by decide +kernel
def QMin (p0 p1 : Int32) (h0 : Heap) (n0 : Nat) (v : Option Value) (h : Heap) (L : List Loc) : Prop := v = some (.int (if p1 < p0 then p1 else p0)) ∧ Fr n0 L ∧ h = h0
theorem own_ef_rmMin (m : MethodId) (p0 : Int32) (p1 : Int32) : entryFrame m #[(.int p0), (.int p1)] 2 = (mkF m 0 #[.val (.int p0), .val (.int p1)] []) := by first | (simp [entryFrame, mkF, argsToLocals, Value.category]; done) | rfl
set_option maxRecDepth 65536 in
set_option maxHeartbeats 40000000 in
theorem rmMin (l : Launch) (Z : State) (a0 : Array Value) (hw : ∀ d ∈ tables_1, d.before a0 Z = true) (ws : List Jvm.Cond) (p0 : Int32) (p1 : Int32) (h0 : Heap) (n0 : Nat) (Z0 : n0 ≤ h0.size) :
    MetFree l (⟨"java/lang/Math", "min", "(II)I"⟩ : MethodName) (head1 (Jvm.Cond.code (⟨"java/lang/Math", "min", "(II)I"⟩ : MethodName) jdk_29_method_69_code 2 (some .int) :: ws) ({ frames := 0, cells := 0, slots := 0, locals := 0 } : Room)) (fun a U => a = #[(.int p0), (.int p1)] ∧ Z.Warmed39 U.vm ∧ U.heap = h0) (fun _ _ _ _ _ => True) (fun _ U o U' => ∃ v L, o = .returned v ∧ QMin p0 p1 h0 n0 v U'.heap L ∧ FrameEnd U o U' L ({ frames := 0, cells := 0, slots := 0, locals := 0 } : Room).cells ({ frames := 0, cells := 0, slots := 0, locals := 0 } : Room).slots) := by
  refine MetFree.of_bodySF (Jvm.Free.JP.mathPlain rfl (by decide +kernel)) hisR ?_
  intro p e s m args below meth c s₁ Bd hml0 hP hK
  obtain ⟨hargs, hZ, hh⟩ := hP
  have hx := Bd.exec
  have hby := Bd.bytes
  have hml : c.maxLocals = 2 := hml0
  have hown : s.vm.findClass "java/lang/Math" = some m.cls := findClass_of_methodNamed Bd.named
  have hnm := (name_of_methodNamed Bd.named Bd.method).1
  have hlock : meth.locks = false := Bd.notSynchronized
  have hret0 := Bd.returns
  have X0 : Stand p l e ({ frames := 0, cells := 0, slots := 0, locals := 0 } : Room) s m args below meth c s₁ [] 0 0 := Stand.of_body Bd
  have e0 : s₁.heap = h0 := by rw [← hh, Bd.state]; rfl
  have N0 := Fr.nil n0
  have pre0 : ∀ t, Steps p.tables e below (s₁.setTop (mkF m 0 #[.val (.int p0), .val (.int p1)] [])) t → Steps p.tables e below (s₁.setTop (entryFrame m args 2)) t := fun t k => castTop (by rw [hargs]; exact own_ef_rmMin m p0 p1) k
  clear Bd
  by_cases hc : p1 < p0
  · skip
    obtain ⟨fs, hr, hrun, hended, hW, hsame⟩ := X0.leave (v := some (.int p1)) (fun h => by rw [hret0] at h; cases h)
    refine ⟨_, _, pre0 _ ?_, hrun, hended, _, _, rfl, ?_, ⟨_, rfl⟩, hW, hsame.mono (by decide) (by decide)⟩
    · show Steps p.tables e below (s₁.setTop (mkF m 0 #[.val (.int p0), .val (.int p1)] [])) _
      refine XS.iloadN X0.here hx rfl (hb hby d8_0) rfl ?_
      show Steps p.tables e below (s₁.setTop (mkF m 1 #[.val (.int p0), .val (.int p1)] [(.int p0)])) _
      refine XS.iloadN X0.here hx rfl (hb hby d8_1) rfl ?_
      show Steps p.tables e below (s₁.setTop (mkF m 2 #[.val (.int p0), .val (.int p1)] [(.int p1), (.int p0)])) _
      refine XS.icmpYes X0.here hx rfl (pc0 := 2) (pc' := 9) rfl (hb hby d8_2) rfl (tlt hc).2.2.1 (by decide) (by decide) ?_
      show Steps p.tables e below (s₁.setTop (mkF m 9 #[.val (.int p0), .val (.int p1)] [])) _
      refine XS.iloadN X0.here hx rfl (hb hby d8_9) rfl ?_
      show Steps p.tables e below (s₁.setTop (mkF m 10 #[.val (.int p0), .val (.int p1)] [(.int p1)])) _
      exact retI X0 hx hret0 (hb hby d8_10) hr
    · show QMin p0 p1 h0 n0 _ s₁.heap _
      rw [e0]
      exact ⟨by rw [if_pos hc], N0, rfl⟩
  · skip
    obtain ⟨fs, hr, hrun, hended, hW, hsame⟩ := X0.leave (v := some (.int p0)) (fun h => by rw [hret0] at h; cases h)
    refine ⟨_, _, pre0 _ ?_, hrun, hended, _, _, rfl, ?_, ⟨_, rfl⟩, hW, hsame.mono (by decide) (by decide)⟩
    · show Steps p.tables e below (s₁.setTop (mkF m 0 #[.val (.int p0), .val (.int p1)] [])) _
      refine XS.iloadN X0.here hx rfl (hb hby d8_0) rfl ?_
      show Steps p.tables e below (s₁.setTop (mkF m 1 #[.val (.int p0), .val (.int p1)] [(.int p0)])) _
      refine XS.iloadN X0.here hx rfl (hb hby d8_1) rfl ?_
      show Steps p.tables e below (s₁.setTop (mkF m 2 #[.val (.int p0), .val (.int p1)] [(.int p1), (.int p0)])) _
      refine XS.icmpNo X0.here hx rfl (hb hby d8_2) rfl (flt hc).2.2.1 ?_
      show Steps p.tables e below (s₁.setTop (mkF m 5 #[.val (.int p0), .val (.int p1)] [])) _
      refine XS.iloadN X0.here hx rfl (hb hby d8_5) rfl ?_
      show Steps p.tables e below (s₁.setTop (mkF m 6 #[.val (.int p0), .val (.int p1)] [(.int p0)])) _
      refine XS.goto X0.here hx rfl (pc0 := 6) (pc' := 10) rfl (hb hby d8_6) (by decide) (by decide) ?_
      show Steps p.tables e below (s₁.setTop (mkF m 10 #[.val (.int p0), .val (.int p1)] [(.int p0)])) _
      exact retI X0 hx hret0 (hb hby d8_10) hr
    · show QMin p0 p1 h0 n0 _ s₁.heap _
      rw [e0]
      exact ⟨by rw [if_neg hc], N0, rfl⟩
theorem d7_0 : decode jdk_65_method_124_code 0 = .ok (.iload_n 1, 1) := by decide +kernel
theorem d7_1 : decode jdk_65_method_124_code 1 = .ok (.aload_n 0, 1) := by decide +kernel
theorem d7_2 : decode jdk_65_method_124_code 2 = .ok (.arraylength, 1) := by decide +kernel
theorem d7_3 : decode jdk_65_method_124_code 3 = .ok (.if_icmp .ne 11, 3) := by decide +kernel
theorem d7_14 : decode jdk_65_method_124_code 14 = .ok (.iload_n 1, 1) := by decide +kernel
theorem d7_15 : decode jdk_65_method_124_code 15 = .ok (.newarray .long, 2) := by decide +kernel
theorem d7_17 : decode jdk_65_method_124_code 17 = .ok (.astore_n 2, 1) := by decide +kernel
theorem d7_18 : decode jdk_65_method_124_code 18 = .ok (.aload_n 0, 1) := by decide +kernel
theorem d7_19 : decode jdk_65_method_124_code 19 = .ok (.iconst 0, 1) := by decide +kernel
theorem d7_20 : decode jdk_65_method_124_code 20 = .ok (.aload_n 2, 1) := by decide +kernel
theorem d7_21 : decode jdk_65_method_124_code 21 = .ok (.iconst 0, 1) := by decide +kernel
theorem d7_22 : decode jdk_65_method_124_code 22 = .ok (.aload_n 0, 1) := by decide +kernel
theorem d7_23 : decode jdk_65_method_124_code 23 = .ok (.arraylength, 1) := by decide +kernel
theorem d7_24 : decode jdk_65_method_124_code 24 = .ok (.iload_n 1, 1) := by decide +kernel
theorem d7_25 : decode jdk_65_method_124_code 25 = .ok (.invokestatic 304, 3) := by decide +kernel
theorem d7_28 : decode jdk_65_method_124_code 28 = .ok (.invokestatic 150, 3) := by decide +kernel
theorem d7_31 : decode jdk_65_method_124_code 31 = .ok (.aload_n 2, 1) := by decide +kernel
theorem d7_32 : decode jdk_65_method_124_code 32 = .ok (.areturn, 1) := by decide +kernel
def QCo1 (Z : State) (x0 x1 : Int64) (h0 : Heap) (n0 : Nat) (v : Option Value) (h : Heap) (L : List Loc) : Prop := ∃ (b : Addr) (kb : ClassId), v = some (.ref b) ∧ Fr n0 L ∧ Ext h0 h ∧ h0.size ≤ b ∧ Arv Z h b kb .long (1 : Int32) [(.long x0)] (.long (0 : Int64))
theorem own_pn_rmCo1 : plainName "java/util/Arrays" = true := by first | (simp [plainName, overriddenIn]; done) | decide +kernel
theorem own_ef_rmCo1 (m : MethodId) (b1 : Addr) : entryFrame m #[(.ref b1), (.int (1 : Int32))] 3 = (mkF m 0 #[.val (.ref b1), .val (.int (1 : Int32)), .unset] []) := by first | (simp [entryFrame, mkF, argsToLocals, Value.category]; done) | rfl
set_option maxRecDepth 65536 in
set_option maxHeartbeats 40000000 in
theorem rmCo1 (l : Launch) (Z : State) (a0 : Array Value) (hw : ∀ d ∈ tables_1, d.before a0 Z = true) (ws : List Jvm.Cond) (b1 : Addr) (kb1 : ClassId) (x0 : Int64) (x1 : Int64) (h0 : Heap) (n0 : Nat) (Z0 : n0 ≤ h0.size) (VB : Arv Z h0 b1 kb1 .long (1024 : Int32) [.long x0, .long x1] (.long (0 : Int64))) :
    MetFree l (⟨"java/util/Arrays", "copyOf", "([JI)[J"⟩ : MethodName) (head1 (Jvm.Cond.code (⟨"java/util/Arrays", "copyOf", "([JI)[J"⟩ : MethodName) jdk_65_method_124_code 3 (some (.array .long)) :: ws) ({ frames := 1, cells := 1, slots := 1, locals := 40 } : Room)) (fun a U => a = #[(.ref b1), (.int (1 : Int32))] ∧ Z.Warmed39 U.vm ∧ U.heap = h0) (fun _ _ _ _ _ => True) (fun _ U o U' => ∃ v L, o = .returned v ∧ QCo1 Z x0 x1 h0 n0 v U'.heap L ∧ FrameEnd U o U' L ({ frames := 1, cells := 1, slots := 1, locals := 40 } : Room).cells ({ frames := 1, cells := 1, slots := 1, locals := 40 } : Room).slots) := by
  refine MetFree.of_bodySF (plainFor_of_name own_pn_rmCo1) hisR ?_
  intro p e s m args below meth c s₁ Bd hml0 hP hK
  obtain ⟨hargs, hZ, hh⟩ := hP
  have hx := Bd.exec
  have hby := Bd.bytes
  have hml : c.maxLocals = 3 := hml0
  have hown : s.vm.findClass "java/util/Arrays" = some m.cls := findClass_of_methodNamed Bd.named
  have hnm := (name_of_methodNamed Bd.named Bd.method).1
  have hlock : meth.locks = false := Bd.notSynchronized
  have hret0 := Bd.returns
  have X0 : Stand p l e ({ frames := 1, cells := 1, slots := 1, locals := 40 } : Room) s m args below meth c s₁ [] 0 0 := Stand.of_body Bd
  have e0 : s₁.heap = h0 := by rw [← hh, Bd.state]; rfl
  have N0 := Fr.nil n0
  have pre0 : ∀ t, Steps p.tables e below (s₁.setTop (mkF m 0 #[.val (.ref b1), .val (.int (1 : Int32)), .unset] [])) t → Steps p.tables e below (s₁.setTop (entryFrame m args 3)) t := fun t k => castTop (by rw [hargs]; exact own_ef_rmCo1 m b1) k
  clear Bd
  obtain ⟨cl121, Ar121, -, S121, M121, -, -⟩ := id VB
  obtain ⟨T122, h122, k122, X122, e122, E122, A122, st122⟩ := newP X0 hx hZ (hw _ (List.mem_of_getElem? (i := 6) rfl)) e0 (g := (mkF m 15 #[.val (.ref b1), .val (.int (1 : Int32)), .unset] [(.int (1 : Int32))])) rfl (hb hby d7_15) rfl (by decide) (cap := 1) (by decide) (by decide) (by decide) (by decide)
  obtain ⟨b122, g122⟩ : ∃ z, z = h0.size := ⟨_, rfl⟩
  rw [← g122] at A122 st122
  have ge_b122 : n0 ≤ b122 := Nat.le_trans Z0 (Nat.le_of_eq g122.symm)
  have sz_b122 : h0.size ≤ b122 := Nat.le_trans (Keep.refl h0 []).1 (Nat.le_of_eq g122.symm)
  have Z123 : n0 ≤ h122.size := Nat.le_trans Z0 E122.1
  have K124 : Keep h0 h122 [] := (Keep.refl h0 []).ext E122
  have V122 : Arv Z h122 b122 k122 .long (1 : Int32) [(.long (0 : Int64))] (.long (0 : Int64)) := (Arv.new A122 (by decide)).pad (pad_rep [] (.long (0 : Int64)) 1)
  have f125 := (VB.ext E122)
  obtain ⟨cl126, Ar126, -, S126, M126, -, -⟩ := id f125
  obtain ⟨v127, vmx127, ⟨T127, L127, k127, n127⟩, -, X127, ⟨Lc127, hQ127, l127, y127, z127⟩, st127⟩ := Jvm.LawKit.callS X122 hx (y := (⟨"java/lang/Math", "min", "(II)I"⟩ : MethodName)) hown (mvT hZ (hw _ (List.mem_of_getElem? (i := 40) rfl))) (mvT hZ (hw _ (List.mem_of_getElem? (i := 41) rfl))) (mvT hZ (hw _ (List.mem_of_getElem? (i := 34) rfl))) (mvT hZ (hw _ (List.mem_of_getElem? (i := 42) rfl))) (by decide) (backOf (W := 4) (rmMin l Z a0 hw [] (1024 : Int32) (1 : Int32) h122 n0 Z123 ) hZ (hw _ (List.mem_of_getElem? (i := 42) rfl)) (hw _ (List.mem_of_getElem? (i := 34) rfl)) (by decide) (by decide)) (g := (mkF m 25 #[.val (.ref b1), .val (.int (1 : Int32)), .val (.ref b122)] [(.int (1 : Int32)), (.int (1024 : Int32)), (.int (0 : Int32)), (.ref b122), (.int (0 : Int32)), (.ref b1)])) rfl (by rw [hml]; rfl) (argsL := [(.int (1024 : Int32)), (.int (1 : Int32))]) (rest := [(.int (0 : Int32)), (.ref b122), (.int (0 : Int32)), (.ref b1)]) (lenOf own_pd1 rfl) rfl (by show 2 * 0 + _ ≤ _; exact Nat.le_of_eq rfl) (hb hby d7_25) (fun _ _ => ⟨rfl, e122, (by decide : 1 + 0 ≤ _), (by decide : 1 + 0 ≤ _)⟩)
  dsimp only [Pt.U, Pt.locs, Pt.cells, Pt.slots] at X127 l127 y127 z127 st127 hQ127
  subst l127 y127 z127
  obtain ⟨rfl, Nq127, eh127⟩ := hQ127
  have N127 := Fr.app N0 Nq127
  have st128 : ∀ target, Steps p.tables e below (T127.setTop (mkF m 28 #[.val (.ref b1), .val (.int (1 : Int32)), .val (.ref b122)] [(.int (1 : Int32)), (.int (0 : Int32)), (.ref b122), (.int (0 : Int32)), (.ref b1)])) target → Steps p.tables e below (T127.setTop (mkF m 28 #[.val (.ref b1), .val (.int (1 : Int32)), .val (.ref b122)] [(.int (if (1 : Int32) < (1024 : Int32) then (1 : Int32) else (1024 : Int32))), (.int (0 : Int32)), (.ref b122), (.int (0 : Int32)), (.ref b1)])) target := by
    rw [show (if (1 : Int32) < (1024 : Int32) then (1 : Int32) else (1024 : Int32)) = (1 : Int32) by decide]
    intro target hk
    exact hk
  obtain ⟨T129, h129, L129, X129, e129, N129, K129, V129, st129⟩ := cpA X127 hx hZ hown (hw _ (List.mem_of_getElem? (i := 43) rfl)) (hw _ (List.mem_of_getElem? (i := 46) rfl)) (hw _ (List.mem_of_getElem? (i := 44) rfl)) (hw _ (List.mem_of_getElem? (i := 45) rfl)) eh127 f125 V122 (Or.inl ⟨rfl, rfl⟩) (sp := (0 : Int32)) (dp := (0 : Int32)) (nn := (1 : Int32)) (us := [(.long x0)]) (by decide) (by decide) (by decide) (by decide) (by decide) rfl (by decide) N127 ge_b122 (g := (mkF m 28 #[.val (.ref b1), .val (.int (1 : Int32)), .val (.ref b122)] [(.int (1 : Int32)), (.int (0 : Int32)), (.ref b122), (.int (0 : Int32)), (.ref b1)])) rfl (by rw [hml]; rfl) rfl (hb hby d7_28) (by decide) (W := 0) (by show 2 * 0 + _ ≤ _; exact Nat.le_of_eq rfl) (by decide)
  have Z130 : n0 ≤ h129.size := Nat.le_trans Z123 K129.1
  have K131 : Keep h0 h129 [] := K124.trans K129 (allS (Or.inr sz_b122) all0)
  obtain ⟨fs, hr, hrun, hended, hW, hsame⟩ := X129.leave (v := some (.ref b122)) (fun h => by rw [hret0] at h; cases h)
  refine ⟨_, _, pre0 _ ?_, hrun, hended, _, _, rfl, ?_, ⟨_, rfl⟩, hW, hsame.mono (by decide) (by decide)⟩
  · show Steps p.tables e below (s₁.setTop (mkF m 0 #[.val (.ref b1), .val (.int (1 : Int32)), .unset] [])) _
    refine XS.iloadN X0.here hx rfl (hb hby d7_0) rfl ?_
    show Steps p.tables e below (s₁.setTop (mkF m 1 #[.val (.ref b1), .val (.int (1 : Int32)), .unset] [(.int (1 : Int32))])) _
    refine XS.aloadN X0.here hx rfl (hb hby d7_1) rfl rfl ?_
    show Steps p.tables e below (s₁.setTop (mkF m 2 #[.val (.ref b1), .val (.int (1 : Int32)), .unset] [(.ref b1), (.int (1 : Int32))])) _
    refine X0.arraylength hx (by rw [e0]; exact Ar121.1) (State.isArrayOf_alike hZ.alike Ar121.2.1) (g := (mkF m 2 #[.val (.ref b1), .val (.int (1 : Int32)), .unset] [(.ref b1), (.int (1 : Int32))])) rfl rfl (hb hby d7_2) _ ?_
    rw [len_of S121 M121]
    show Steps p.tables e below (s₁.setTop (mkF m 3 #[.val (.ref b1), .val (.int (1 : Int32)), .unset] [(.int (1024 : Int32)), (.int (1 : Int32))])) _
    refine XS.icmpYes X0.here hx rfl (pc0 := 3) (pc' := 14) rfl (hb hby d7_3) rfl (feq (by decide)).2 (by decide) (by decide) ?_
    show Steps p.tables e below (s₁.setTop (mkF m 14 #[.val (.ref b1), .val (.int (1 : Int32)), .unset] [])) _
    refine XS.iloadN X0.here hx rfl (hb hby d7_14) rfl ?_
    show Steps p.tables e below (s₁.setTop (mkF m 15 #[.val (.ref b1), .val (.int (1 : Int32)), .unset] [(.int (1 : Int32))])) _
    refine st122 _ ?_
    show Steps p.tables e below (T122.setTop (mkF m 17 #[.val (.ref b1), .val (.int (1 : Int32)), .unset] [(.ref b122)])) _
    refine XS.astoreN X122.here hx rfl (hb hby d7_17) rfl rfl (l' := #[.val (.ref b1), .val (.int (1 : Int32)), .val (.ref b122)]) rfl ?_
    show Steps p.tables e below (T122.setTop (mkF m 18 #[.val (.ref b1), .val (.int (1 : Int32)), .val (.ref b122)] [])) _
    refine XS.aloadN X122.here hx rfl (hb hby d7_18) rfl rfl ?_
    show Steps p.tables e below (T122.setTop (mkF m 19 #[.val (.ref b1), .val (.int (1 : Int32)), .val (.ref b122)] [(.ref b1)])) _
    refine XS.iconst X122.here hx rfl (hb hby d7_19) ?_
    show Steps p.tables e below (T122.setTop (mkF m 20 #[.val (.ref b1), .val (.int (1 : Int32)), .val (.ref b122)] [(.int (0 : Int32)), (.ref b1)])) _
    refine XS.aloadN X122.here hx rfl (hb hby d7_20) rfl rfl ?_
    show Steps p.tables e below (T122.setTop (mkF m 21 #[.val (.ref b1), .val (.int (1 : Int32)), .val (.ref b122)] [(.ref b122), (.int (0 : Int32)), (.ref b1)])) _
    refine XS.iconst X122.here hx rfl (hb hby d7_21) ?_
    show Steps p.tables e below (T122.setTop (mkF m 22 #[.val (.ref b1), .val (.int (1 : Int32)), .val (.ref b122)] [(.int (0 : Int32)), (.ref b122), (.int (0 : Int32)), (.ref b1)])) _
    refine XS.aloadN X122.here hx rfl (hb hby d7_22) rfl rfl ?_
    show Steps p.tables e below (T122.setTop (mkF m 23 #[.val (.ref b1), .val (.int (1 : Int32)), .val (.ref b122)] [(.ref b1), (.int (0 : Int32)), (.ref b122), (.int (0 : Int32)), (.ref b1)])) _
    refine X122.arraylength hx (by rw [e122]; exact Ar126.1) (State.isArrayOf_alike hZ.alike Ar126.2.1) (g := (mkF m 23 #[.val (.ref b1), .val (.int (1 : Int32)), .val (.ref b122)] [(.ref b1), (.int (0 : Int32)), (.ref b122), (.int (0 : Int32)), (.ref b1)])) rfl rfl (hb hby d7_23) _ ?_
    rw [len_of S126 M126]
    show Steps p.tables e below (T122.setTop (mkF m 24 #[.val (.ref b1), .val (.int (1 : Int32)), .val (.ref b122)] [(.int (1024 : Int32)), (.int (0 : Int32)), (.ref b122), (.int (0 : Int32)), (.ref b1)])) _
    refine XS.iloadN X122.here hx rfl (hb hby d7_24) rfl ?_
    show Steps p.tables e below (T122.setTop (mkF m 25 #[.val (.ref b1), .val (.int (1 : Int32)), .val (.ref b122)] [(.int (1 : Int32)), (.int (1024 : Int32)), (.int (0 : Int32)), (.ref b122), (.int (0 : Int32)), (.ref b1)])) _
    refine st127 _ ?_
    show Steps p.tables e below (T127.setTop (mkF m 28 #[.val (.ref b1), .val (.int (1 : Int32)), .val (.ref b122)] [(.int (if (1 : Int32) < (1024 : Int32) then (1 : Int32) else (1024 : Int32))), (.int (0 : Int32)), (.ref b122), (.int (0 : Int32)), (.ref b1)])) _
    refine st128 _ ?_
    show Steps p.tables e below (T127.setTop (mkF m 28 #[.val (.ref b1), .val (.int (1 : Int32)), .val (.ref b122)] [(.int (1 : Int32)), (.int (0 : Int32)), (.ref b122), (.int (0 : Int32)), (.ref b1)])) _
    refine st129 _ ?_
    show Steps p.tables e below (T129.setTop (mkF m 31 #[.val (.ref b1), .val (.int (1 : Int32)), .val (.ref b122)] [])) _
    refine XS.aloadN X129.here hx rfl (hb hby d7_31) rfl rfl ?_
    show Steps p.tables e below (T129.setTop (mkF m 32 #[.val (.ref b1), .val (.int (1 : Int32)), .val (.ref b122)] [(.ref b122)])) _
    exact retR X129 hx hret0 rfl rfl rfl (hb hby d7_32) hr
  · show QCo1 Z x0 x1 h0 n0 _ T129.heap _
    rw [e129]
    exact ⟨b122, k122, rfl, N129, own_ext K131, sz_b122, V129⟩
def QCo2 (Z : State) (x0 x1 : Int64) (h0 : Heap) (n0 : Nat) (v : Option Value) (h : Heap) (L : List Loc) : Prop := ∃ (b : Addr) (kb : ClassId), v = some (.ref b) ∧ Fr n0 L ∧ Ext h0 h ∧ h0.size ≤ b ∧ Arv Z h b kb .long (2 : Int32) [(.long x0), (.long x1)] (.long (0 : Int64))
theorem own_pn_rmCo2 : plainName "java/util/Arrays" = true := by first | (simp [plainName, overriddenIn]; done) | decide +kernel
theorem own_ef_rmCo2 (m : MethodId) (b1 : Addr) : entryFrame m #[(.ref b1), (.int (2 : Int32))] 3 = (mkF m 0 #[.val (.ref b1), .val (.int (2 : Int32)), .unset] []) := by first | (simp [entryFrame, mkF, argsToLocals, Value.category]; done) | rfl
set_option maxRecDepth 65536 in
set_option maxHeartbeats 40000000 in
theorem rmCo2 (l : Launch) (Z : State) (a0 : Array Value) (hw : ∀ d ∈ tables_1, d.before a0 Z = true) (ws : List Jvm.Cond) (b1 : Addr) (kb1 : ClassId) (x0 : Int64) (x1 : Int64) (h0 : Heap) (n0 : Nat) (Z0 : n0 ≤ h0.size) (VB : Arv Z h0 b1 kb1 .long (1024 : Int32) [.long x0, .long x1] (.long (0 : Int64))) :
    MetFree l (⟨"java/util/Arrays", "copyOf", "([JI)[J"⟩ : MethodName) (head1 (Jvm.Cond.code (⟨"java/util/Arrays", "copyOf", "([JI)[J"⟩ : MethodName) jdk_65_method_124_code 3 (some (.array .long)) :: ws) ({ frames := 1, cells := 1, slots := 2, locals := 40 } : Room)) (fun a U => a = #[(.ref b1), (.int (2 : Int32))] ∧ Z.Warmed39 U.vm ∧ U.heap = h0) (fun _ _ _ _ _ => True) (fun _ U o U' => ∃ v L, o = .returned v ∧ QCo2 Z x0 x1 h0 n0 v U'.heap L ∧ FrameEnd U o U' L ({ frames := 1, cells := 1, slots := 2, locals := 40 } : Room).cells ({ frames := 1, cells := 1, slots := 2, locals := 40 } : Room).slots) := by
  refine MetFree.of_bodySF (plainFor_of_name own_pn_rmCo2) hisR ?_
  intro p e s m args below meth c s₁ Bd hml0 hP hK
  obtain ⟨hargs, hZ, hh⟩ := hP
  have hx := Bd.exec
  have hby := Bd.bytes
  have hml : c.maxLocals = 3 := hml0
  have hown : s.vm.findClass "java/util/Arrays" = some m.cls := findClass_of_methodNamed Bd.named
  have hnm := (name_of_methodNamed Bd.named Bd.method).1
  have hlock : meth.locks = false := Bd.notSynchronized
  have hret0 := Bd.returns
  have X0 : Stand p l e ({ frames := 1, cells := 1, slots := 2, locals := 40 } : Room) s m args below meth c s₁ [] 0 0 := Stand.of_body Bd
  have e0 : s₁.heap = h0 := by rw [← hh, Bd.state]; rfl
  have N0 := Fr.nil n0
  have pre0 : ∀ t, Steps p.tables e below (s₁.setTop (mkF m 0 #[.val (.ref b1), .val (.int (2 : Int32)), .unset] [])) t → Steps p.tables e below (s₁.setTop (entryFrame m args 3)) t := fun t k => castTop (by rw [hargs]; exact own_ef_rmCo2 m b1) k
  clear Bd
  obtain ⟨cl132, Ar132, -, S132, M132, -, -⟩ := id VB
  obtain ⟨T133, h133, k133, X133, e133, E133, A133, st133⟩ := newP X0 hx hZ (hw _ (List.mem_of_getElem? (i := 6) rfl)) e0 (g := (mkF m 15 #[.val (.ref b1), .val (.int (2 : Int32)), .unset] [(.int (2 : Int32))])) rfl (hb hby d7_15) rfl (by decide) (cap := 2) (by decide) (by decide) (by decide) (by decide)
  obtain ⟨b133, g133⟩ : ∃ z, z = h0.size := ⟨_, rfl⟩
  rw [← g133] at A133 st133
  have ge_b133 : n0 ≤ b133 := Nat.le_trans Z0 (Nat.le_of_eq g133.symm)
  have sz_b133 : h0.size ≤ b133 := Nat.le_trans (Keep.refl h0 []).1 (Nat.le_of_eq g133.symm)
  have Z134 : n0 ≤ h133.size := Nat.le_trans Z0 E133.1
  have K135 : Keep h0 h133 [] := (Keep.refl h0 []).ext E133
  have V133 : Arv Z h133 b133 k133 .long (2 : Int32) [(.long (0 : Int64)), (.long (0 : Int64))] (.long (0 : Int64)) := (Arv.new A133 (by decide)).pad (pad_rep [] (.long (0 : Int64)) 2)
  have f136 := (VB.ext E133)
  obtain ⟨cl137, Ar137, -, S137, M137, -, -⟩ := id f136
  obtain ⟨v138, vmx138, ⟨T138, L138, k138, n138⟩, -, X138, ⟨Lc138, hQ138, l138, y138, z138⟩, st138⟩ := Jvm.LawKit.callS X133 hx (y := (⟨"java/lang/Math", "min", "(II)I"⟩ : MethodName)) hown (mvT hZ (hw _ (List.mem_of_getElem? (i := 40) rfl))) (mvT hZ (hw _ (List.mem_of_getElem? (i := 41) rfl))) (mvT hZ (hw _ (List.mem_of_getElem? (i := 34) rfl))) (mvT hZ (hw _ (List.mem_of_getElem? (i := 42) rfl))) (by decide) (backOf (W := 4) (rmMin l Z a0 hw [] (1024 : Int32) (2 : Int32) h133 n0 Z134 ) hZ (hw _ (List.mem_of_getElem? (i := 42) rfl)) (hw _ (List.mem_of_getElem? (i := 34) rfl)) (by decide) (by decide)) (g := (mkF m 25 #[.val (.ref b1), .val (.int (2 : Int32)), .val (.ref b133)] [(.int (2 : Int32)), (.int (1024 : Int32)), (.int (0 : Int32)), (.ref b133), (.int (0 : Int32)), (.ref b1)])) rfl (by rw [hml]; rfl) (argsL := [(.int (1024 : Int32)), (.int (2 : Int32))]) (rest := [(.int (0 : Int32)), (.ref b133), (.int (0 : Int32)), (.ref b1)]) (lenOf own_pd1 rfl) rfl (by show 2 * 0 + _ ≤ _; exact Nat.le_of_eq rfl) (hb hby d7_25) (fun _ _ => ⟨rfl, e133, (by decide : 1 + 0 ≤ _), (by decide : 2 + 0 ≤ _)⟩)
  dsimp only [Pt.U, Pt.locs, Pt.cells, Pt.slots] at X138 l138 y138 z138 st138 hQ138
  subst l138 y138 z138
  obtain ⟨rfl, Nq138, eh138⟩ := hQ138
  have N138 := Fr.app N0 Nq138
  have st139 : ∀ target, Steps p.tables e below (T138.setTop (mkF m 28 #[.val (.ref b1), .val (.int (2 : Int32)), .val (.ref b133)] [(.int (2 : Int32)), (.int (0 : Int32)), (.ref b133), (.int (0 : Int32)), (.ref b1)])) target → Steps p.tables e below (T138.setTop (mkF m 28 #[.val (.ref b1), .val (.int (2 : Int32)), .val (.ref b133)] [(.int (if (2 : Int32) < (1024 : Int32) then (2 : Int32) else (1024 : Int32))), (.int (0 : Int32)), (.ref b133), (.int (0 : Int32)), (.ref b1)])) target := by
    rw [show (if (2 : Int32) < (1024 : Int32) then (2 : Int32) else (1024 : Int32)) = (2 : Int32) by decide]
    intro target hk
    exact hk
  obtain ⟨T140, h140, L140, X140, e140, N140, K140, V140, st140⟩ := cpA X138 hx hZ hown (hw _ (List.mem_of_getElem? (i := 43) rfl)) (hw _ (List.mem_of_getElem? (i := 46) rfl)) (hw _ (List.mem_of_getElem? (i := 44) rfl)) (hw _ (List.mem_of_getElem? (i := 45) rfl)) eh138 f136 V133 (Or.inl ⟨rfl, rfl⟩) (sp := (0 : Int32)) (dp := (0 : Int32)) (nn := (2 : Int32)) (us := [(.long x0), (.long x1)]) (by decide) (by decide) (by decide) (by decide) (by decide) rfl (by decide) N138 ge_b133 (g := (mkF m 28 #[.val (.ref b1), .val (.int (2 : Int32)), .val (.ref b133)] [(.int (2 : Int32)), (.int (0 : Int32)), (.ref b133), (.int (0 : Int32)), (.ref b1)])) rfl (by rw [hml]; rfl) rfl (hb hby d7_28) (by decide) (W := 0) (by show 2 * 0 + _ ≤ _; exact Nat.le_of_eq rfl) (by decide)
  have Z141 : n0 ≤ h140.size := Nat.le_trans Z134 K140.1
  have K142 : Keep h0 h140 [] := K135.trans K140 (allS (Or.inr sz_b133) all0)
  obtain ⟨fs, hr, hrun, hended, hW, hsame⟩ := X140.leave (v := some (.ref b133)) (fun h => by rw [hret0] at h; cases h)
  refine ⟨_, _, pre0 _ ?_, hrun, hended, _, _, rfl, ?_, ⟨_, rfl⟩, hW, hsame.mono (by decide) (by decide)⟩
  · show Steps p.tables e below (s₁.setTop (mkF m 0 #[.val (.ref b1), .val (.int (2 : Int32)), .unset] [])) _
    refine XS.iloadN X0.here hx rfl (hb hby d7_0) rfl ?_
    show Steps p.tables e below (s₁.setTop (mkF m 1 #[.val (.ref b1), .val (.int (2 : Int32)), .unset] [(.int (2 : Int32))])) _
    refine XS.aloadN X0.here hx rfl (hb hby d7_1) rfl rfl ?_
    show Steps p.tables e below (s₁.setTop (mkF m 2 #[.val (.ref b1), .val (.int (2 : Int32)), .unset] [(.ref b1), (.int (2 : Int32))])) _
    refine X0.arraylength hx (by rw [e0]; exact Ar132.1) (State.isArrayOf_alike hZ.alike Ar132.2.1) (g := (mkF m 2 #[.val (.ref b1), .val (.int (2 : Int32)), .unset] [(.ref b1), (.int (2 : Int32))])) rfl rfl (hb hby d7_2) _ ?_
    rw [len_of S132 M132]
    show Steps p.tables e below (s₁.setTop (mkF m 3 #[.val (.ref b1), .val (.int (2 : Int32)), .unset] [(.int (1024 : Int32)), (.int (2 : Int32))])) _
    refine XS.icmpYes X0.here hx rfl (pc0 := 3) (pc' := 14) rfl (hb hby d7_3) rfl (feq (by decide)).2 (by decide) (by decide) ?_
    show Steps p.tables e below (s₁.setTop (mkF m 14 #[.val (.ref b1), .val (.int (2 : Int32)), .unset] [])) _
    refine XS.iloadN X0.here hx rfl (hb hby d7_14) rfl ?_
    show Steps p.tables e below (s₁.setTop (mkF m 15 #[.val (.ref b1), .val (.int (2 : Int32)), .unset] [(.int (2 : Int32))])) _
    refine st133 _ ?_
    show Steps p.tables e below (T133.setTop (mkF m 17 #[.val (.ref b1), .val (.int (2 : Int32)), .unset] [(.ref b133)])) _
    refine XS.astoreN X133.here hx rfl (hb hby d7_17) rfl rfl (l' := #[.val (.ref b1), .val (.int (2 : Int32)), .val (.ref b133)]) rfl ?_
    show Steps p.tables e below (T133.setTop (mkF m 18 #[.val (.ref b1), .val (.int (2 : Int32)), .val (.ref b133)] [])) _
    refine XS.aloadN X133.here hx rfl (hb hby d7_18) rfl rfl ?_
    show Steps p.tables e below (T133.setTop (mkF m 19 #[.val (.ref b1), .val (.int (2 : Int32)), .val (.ref b133)] [(.ref b1)])) _
    refine XS.iconst X133.here hx rfl (hb hby d7_19) ?_
    show Steps p.tables e below (T133.setTop (mkF m 20 #[.val (.ref b1), .val (.int (2 : Int32)), .val (.ref b133)] [(.int (0 : Int32)), (.ref b1)])) _
    refine XS.aloadN X133.here hx rfl (hb hby d7_20) rfl rfl ?_
    show Steps p.tables e below (T133.setTop (mkF m 21 #[.val (.ref b1), .val (.int (2 : Int32)), .val (.ref b133)] [(.ref b133), (.int (0 : Int32)), (.ref b1)])) _
    refine XS.iconst X133.here hx rfl (hb hby d7_21) ?_
    show Steps p.tables e below (T133.setTop (mkF m 22 #[.val (.ref b1), .val (.int (2 : Int32)), .val (.ref b133)] [(.int (0 : Int32)), (.ref b133), (.int (0 : Int32)), (.ref b1)])) _
    refine XS.aloadN X133.here hx rfl (hb hby d7_22) rfl rfl ?_
    show Steps p.tables e below (T133.setTop (mkF m 23 #[.val (.ref b1), .val (.int (2 : Int32)), .val (.ref b133)] [(.ref b1), (.int (0 : Int32)), (.ref b133), (.int (0 : Int32)), (.ref b1)])) _
    refine X133.arraylength hx (by rw [e133]; exact Ar137.1) (State.isArrayOf_alike hZ.alike Ar137.2.1) (g := (mkF m 23 #[.val (.ref b1), .val (.int (2 : Int32)), .val (.ref b133)] [(.ref b1), (.int (0 : Int32)), (.ref b133), (.int (0 : Int32)), (.ref b1)])) rfl rfl (hb hby d7_23) _ ?_
    rw [len_of S137 M137]
    show Steps p.tables e below (T133.setTop (mkF m 24 #[.val (.ref b1), .val (.int (2 : Int32)), .val (.ref b133)] [(.int (1024 : Int32)), (.int (0 : Int32)), (.ref b133), (.int (0 : Int32)), (.ref b1)])) _
    refine XS.iloadN X133.here hx rfl (hb hby d7_24) rfl ?_
    show Steps p.tables e below (T133.setTop (mkF m 25 #[.val (.ref b1), .val (.int (2 : Int32)), .val (.ref b133)] [(.int (2 : Int32)), (.int (1024 : Int32)), (.int (0 : Int32)), (.ref b133), (.int (0 : Int32)), (.ref b1)])) _
    refine st138 _ ?_
    show Steps p.tables e below (T138.setTop (mkF m 28 #[.val (.ref b1), .val (.int (2 : Int32)), .val (.ref b133)] [(.int (if (2 : Int32) < (1024 : Int32) then (2 : Int32) else (1024 : Int32))), (.int (0 : Int32)), (.ref b133), (.int (0 : Int32)), (.ref b1)])) _
    refine st139 _ ?_
    show Steps p.tables e below (T138.setTop (mkF m 28 #[.val (.ref b1), .val (.int (2 : Int32)), .val (.ref b133)] [(.int (2 : Int32)), (.int (0 : Int32)), (.ref b133), (.int (0 : Int32)), (.ref b1)])) _
    refine st140 _ ?_
    show Steps p.tables e below (T140.setTop (mkF m 31 #[.val (.ref b1), .val (.int (2 : Int32)), .val (.ref b133)] [])) _
    refine XS.aloadN X140.here hx rfl (hb hby d7_31) rfl rfl ?_
    show Steps p.tables e below (T140.setTop (mkF m 32 #[.val (.ref b1), .val (.int (2 : Int32)), .val (.ref b133)] [(.ref b133)])) _
    exact retR X140 hx hret0 rfl rfl rfl (hb hby d7_32) hr
  · show QCo2 Z x0 x1 h0 n0 _ T140.heap _
    rw [e140]
    exact ⟨b133, k133, rfl, N140, own_ext K142, sz_b133, V140⟩
def QSo1 (Z : State) (b : Addr) (kb : ClassId) (x0 x1 : Int64) (h0 : Heap) (n0 : Nat) (v : Option Value) (h : Heap) (L : List Loc) : Prop := v = none ∧ Fr n0 L ∧ Keep h0 h [b] ∧ Arv Z h b kb .long (1 : Int32) [.long x0] (.long (0 : Int64))
def QSo2 (Z : State) (b : Addr) (kb : ClassId) (x0 x1 : Int64) (h0 : Heap) (n0 : Nat) (v : Option Value) (h : Heap) (L : List Loc) : Prop := v = none ∧ Fr n0 L ∧ Keep h0 h [b] ∧ Arv Z h b kb .long (2 : Int32) [.long (if x1 < x0 then x1 else x0), .long (if x0 < x1 then x1 else x0)] (.long (0 : Int64))
theorem own_ord {x0 x1 : Int64} (h : ¬ x1 < x0) : (if x0 < x1 then x1 else x0) = x1 := by
  by_cases q : x0 < x1
  · rw [if_pos q]
  · rw [if_neg q]
    apply Int64.toInt_inj.mp
    rw [Int64.lt_iff_toInt_lt] at h q
    omega
theorem d12_0 : decode jdk_2529_method_15_code 0 = .ok (.iload_n 1, 1) := by decide +kernel
theorem d12_1 : decode jdk_2529_method_15_code 1 = .ok (.istore 4, 2) := by decide +kernel
theorem d12_3 : decode jdk_2529_method_15_code 3 = .ok (.iinc 4 1, 3) := by decide +kernel
theorem d12_6 : decode jdk_2529_method_15_code 6 = .ok (.iload 4, 2) := by decide +kernel
theorem d12_8 : decode jdk_2529_method_15_code 8 = .ok (.iload_n 2, 1) := by decide +kernel
theorem d12_9 : decode jdk_2529_method_15_code 9 = .ok (.if_icmp .ge 60, 3) := by decide +kernel
theorem d12_12 : decode jdk_2529_method_15_code 12 = .ok (.aload_n 0, 1) := by decide +kernel
theorem d12_13 : decode jdk_2529_method_15_code 13 = .ok (.iload 4, 2) := by decide +kernel
theorem d12_15 : decode jdk_2529_method_15_code 15 = .ok (.dup, 1) := by decide +kernel
theorem d12_16 : decode jdk_2529_method_15_code 16 = .ok (.istore_n 3, 1) := by decide +kernel
theorem d12_17 : decode jdk_2529_method_15_code 17 = .ok (.laload, 1) := by decide +kernel
theorem d12_18 : decode jdk_2529_method_15_code 18 = .ok (.lstore 5, 2) := by decide +kernel
theorem d12_20 : decode jdk_2529_method_15_code 20 = .ok (.lload 5, 2) := by decide +kernel
theorem d12_22 : decode jdk_2529_method_15_code 22 = .ok (.aload_n 0, 1) := by decide +kernel
theorem d12_23 : decode jdk_2529_method_15_code 23 = .ok (.iload_n 3, 1) := by decide +kernel
theorem d12_24 : decode jdk_2529_method_15_code 24 = .ok (.iconst 1, 1) := by decide +kernel
theorem d12_25 : decode jdk_2529_method_15_code 25 = .ok (.isub, 1) := by decide +kernel
theorem d12_26 : decode jdk_2529_method_15_code 26 = .ok (.laload, 1) := by decide +kernel
theorem d12_27 : decode jdk_2529_method_15_code 27 = .ok (.lcmp, 1) := by decide +kernel
theorem d12_28 : decode jdk_2529_method_15_code 28 = .ok (.ifCond .ge 38, 3) := by decide +kernel
theorem d12_31 : decode jdk_2529_method_15_code 31 = .ok (.iinc 3 (-1), 3) := by decide +kernel
theorem d12_34 : decode jdk_2529_method_15_code 34 = .ok (.iload_n 3, 1) := by decide +kernel
theorem d12_35 : decode jdk_2529_method_15_code 35 = .ok (.iload_n 1, 1) := by decide +kernel
theorem d12_36 : decode jdk_2529_method_15_code 36 = .ok (.if_icmp .lt 23, 3) := by decide +kernel
theorem d12_39 : decode jdk_2529_method_15_code 39 = .ok (.lload 5, 2) := by decide +kernel
theorem d12_41 : decode jdk_2529_method_15_code 41 = .ok (.aload_n 0, 1) := by decide +kernel
theorem d12_42 : decode jdk_2529_method_15_code 42 = .ok (.iload_n 3, 1) := by decide +kernel
theorem d12_43 : decode jdk_2529_method_15_code 43 = .ok (.laload, 1) := by decide +kernel
theorem d12_44 : decode jdk_2529_method_15_code 44 = .ok (.lcmp, 1) := by decide +kernel
theorem d12_45 : decode jdk_2529_method_15_code 45 = .ok (.ifCond .ge 14, 3) := by decide +kernel
theorem d12_48 : decode jdk_2529_method_15_code 48 = .ok (.aload_n 0, 1) := by decide +kernel
theorem d12_49 : decode jdk_2529_method_15_code 49 = .ok (.iload_n 3, 1) := by decide +kernel
theorem d12_50 : decode jdk_2529_method_15_code 50 = .ok (.iconst 1, 1) := by decide +kernel
theorem d12_51 : decode jdk_2529_method_15_code 51 = .ok (.iadd, 1) := by decide +kernel
theorem d12_52 : decode jdk_2529_method_15_code 52 = .ok (.aload_n 0, 1) := by decide +kernel
theorem d12_53 : decode jdk_2529_method_15_code 53 = .ok (.iload_n 3, 1) := by decide +kernel
theorem d12_54 : decode jdk_2529_method_15_code 54 = .ok (.laload, 1) := by decide +kernel
theorem d12_55 : decode jdk_2529_method_15_code 55 = .ok (.lastore, 1) := by decide +kernel
theorem d12_56 : decode jdk_2529_method_15_code 56 = .ok (.goto (-25), 3) := by decide +kernel
theorem d12_59 : decode jdk_2529_method_15_code 59 = .ok (.aload_n 0, 1) := by decide +kernel
theorem d12_60 : decode jdk_2529_method_15_code 60 = .ok (.iload_n 3, 1) := by decide +kernel
theorem d12_61 : decode jdk_2529_method_15_code 61 = .ok (.iconst 1, 1) := by decide +kernel
theorem d12_62 : decode jdk_2529_method_15_code 62 = .ok (.iadd, 1) := by decide +kernel
theorem d12_63 : decode jdk_2529_method_15_code 63 = .ok (.lload 5, 2) := by decide +kernel
theorem d12_65 : decode jdk_2529_method_15_code 65 = .ok (.lastore, 1) := by decide +kernel
theorem d12_66 : decode jdk_2529_method_15_code 66 = .ok (.goto (-63), 3) := by decide +kernel
theorem d12_69 : decode jdk_2529_method_15_code 69 = .ok (.return_, 1) := by decide +kernel
theorem own_pn_rmIs1 : plainName "java/util/DualPivotQuicksort" = true := by first | (simp [plainName, overriddenIn]; done) | decide +kernel
theorem own_ef_rmIs1 (m : MethodId) (b : Addr) : entryFrame m #[(.ref b), (.int (0 : Int32)), (.int (1 : Int32))] 7 = (mkF m 0 #[.val (.ref b), .val (.int (0 : Int32)), .val (.int (1 : Int32)), .unset, .unset, .unset, .unset] []) := by first | (simp [entryFrame, mkF, argsToLocals, Value.category]; done) | rfl
set_option maxRecDepth 65536 in
set_option maxHeartbeats 40000000 in
theorem rmIs1 (l : Launch) (Z : State) (a0 : Array Value) (hw : ∀ d ∈ tables_1, d.before a0 Z = true) (ws : List Jvm.Cond) (b : Addr) (kb : ClassId) (x0 : Int64) (x1 : Int64) (h0 : Heap) (n0 : Nat) (Z0 : n0 ≤ h0.size) (VB : Arv Z h0 b kb .long (1 : Int32) [(.long x0)] (.long (0 : Int64))) (ge1 : n0 ≤ b) :
    MetFree l (⟨"java/util/DualPivotQuicksort", "insertionSort", "([JII)V"⟩ : MethodName) (head1 (Jvm.Cond.code (⟨"java/util/DualPivotQuicksort", "insertionSort", "([JII)V"⟩ : MethodName) jdk_2529_method_15_code 7 none :: ws) ({ frames := 0, cells := 0, slots := 0, locals := 0 } : Room)) (fun a U => a = #[(.ref b), (.int (0 : Int32)), (.int (1 : Int32))] ∧ Z.Warmed39 U.vm ∧ U.heap = h0) (fun _ _ _ _ _ => True) (fun _ U o U' => ∃ v L, o = .returned v ∧ QSo1 Z b kb x0 x1 h0 n0 v U'.heap L ∧ FrameEnd U o U' L ({ frames := 0, cells := 0, slots := 0, locals := 0 } : Room).cells ({ frames := 0, cells := 0, slots := 0, locals := 0 } : Room).slots) := by
  refine MetFree.of_bodySF (plainFor_of_name own_pn_rmIs1) hisR ?_
  intro p e s m args below meth c s₁ Bd hml0 hP hK
  obtain ⟨hargs, hZ, hh⟩ := hP
  have hx := Bd.exec
  have hby := Bd.bytes
  have hml : c.maxLocals = 7 := hml0
  have hown : s.vm.findClass "java/util/DualPivotQuicksort" = some m.cls := findClass_of_methodNamed Bd.named
  have hnm := (name_of_methodNamed Bd.named Bd.method).1
  have hlock : meth.locks = false := Bd.notSynchronized
  have hret0 := Bd.returns
  have X0 : Stand p l e ({ frames := 0, cells := 0, slots := 0, locals := 0 } : Room) s m args below meth c s₁ [] 0 0 := Stand.of_body Bd
  have e0 : s₁.heap = h0 := by rw [← hh, Bd.state]; rfl
  have N0 := Fr.nil n0
  have pre0 : ∀ t, Steps p.tables e below (s₁.setTop (mkF m 0 #[.val (.ref b), .val (.int (0 : Int32)), .val (.int (1 : Int32)), .unset, .unset, .unset, .unset] [])) t → Steps p.tables e below (s₁.setTop (entryFrame m args 7)) t := fun t k => castTop (by rw [hargs]; exact own_ef_rmIs1 m b) k
  clear Bd
  obtain ⟨fs, hr, hrun, hended, hW, hsame⟩ := X0.leave (v := none) (fun _ => rfl)
  refine ⟨_, _, pre0 _ ?_, hrun, hended, _, _, rfl, ?_, ⟨_, rfl⟩, hW, hsame.mono (by decide) (by decide)⟩
  · show Steps p.tables e below (s₁.setTop (mkF m 0 #[.val (.ref b), .val (.int (0 : Int32)), .val (.int (1 : Int32)), .unset, .unset, .unset, .unset] [])) _
    refine XS.iloadN X0.here hx rfl (hb hby d12_0) rfl ?_
    show Steps p.tables e below (s₁.setTop (mkF m 1 #[.val (.ref b), .val (.int (0 : Int32)), .val (.int (1 : Int32)), .unset, .unset, .unset, .unset] [(.int (0 : Int32))])) _
    refine XS.istore X0.here hx rfl (hb hby d12_1) rfl (l' := #[.val (.ref b), .val (.int (0 : Int32)), .val (.int (1 : Int32)), .unset, .val (.int (0 : Int32)), .unset, .unset]) rfl ?_
    show Steps p.tables e below (s₁.setTop (mkF m 3 #[.val (.ref b), .val (.int (0 : Int32)), .val (.int (1 : Int32)), .unset, .val (.int (0 : Int32)), .unset, .unset] [])) _
    refine XS.iinc X0.here hx rfl (hb hby d12_3) rfl (l' := #[.val (.ref b), .val (.int (0 : Int32)), .val (.int (1 : Int32)), .unset, .val (.int ((0 : Int32) + (1 : Int32))), .unset, .unset]) rfl ?_
    show Steps p.tables e below (s₁.setTop (mkF m 6 #[.val (.ref b), .val (.int (0 : Int32)), .val (.int (1 : Int32)), .unset, .val (.int ((0 : Int32) + (1 : Int32))), .unset, .unset] [])) _
    refine XS.iload X0.here hx rfl (hb hby d12_6) rfl ?_
    show Steps p.tables e below (s₁.setTop (mkF m 8 #[.val (.ref b), .val (.int (0 : Int32)), .val (.int (1 : Int32)), .unset, .val (.int ((0 : Int32) + (1 : Int32))), .unset, .unset] [(.int ((0 : Int32) + (1 : Int32)))])) _
    refine XS.iloadN X0.here hx rfl (hb hby d12_8) rfl ?_
    show Steps p.tables e below (s₁.setTop (mkF m 9 #[.val (.ref b), .val (.int (0 : Int32)), .val (.int (1 : Int32)), .unset, .val (.int ((0 : Int32) + (1 : Int32))), .unset, .unset] [(.int (1 : Int32)), (.int ((0 : Int32) + (1 : Int32)))])) _
    refine XS.icmpYes X0.here hx rfl (pc0 := 9) (pc' := 69) rfl (hb hby d12_9) rfl (flt (by decide)).2.1 (by decide) (by decide) ?_
    show Steps p.tables e below (s₁.setTop (mkF m 69 #[.val (.ref b), .val (.int (0 : Int32)), .val (.int (1 : Int32)), .unset, .val (.int ((0 : Int32) + (1 : Int32))), .unset, .unset] [])) _
    exact X0.returnOut hx hret0 (hb hby d12_69) hr
  · show QSo1 Z b kb x0 x1 h0 n0 _ s₁.heap _
    rw [e0]
    exact ⟨rfl, N0, (Keep.refl h0 [b]), VB⟩
theorem own_pn_rmIs2 : plainName "java/util/DualPivotQuicksort" = true := by first | (simp [plainName, overriddenIn]; done) | decide +kernel
theorem own_ef_rmIs2 (m : MethodId) (b : Addr) : entryFrame m #[(.ref b), (.int (0 : Int32)), (.int (2 : Int32))] 7 = (mkF m 0 #[.val (.ref b), .val (.int (0 : Int32)), .val (.int (2 : Int32)), .unset, .unset, .unset, .unset] []) := by first | (simp [entryFrame, mkF, argsToLocals, Value.category]; done) | rfl
set_option maxRecDepth 65536 in
set_option maxHeartbeats 40000000 in
theorem rmIs2 (l : Launch) (Z : State) (a0 : Array Value) (hw : ∀ d ∈ tables_1, d.before a0 Z = true) (ws : List Jvm.Cond) (b : Addr) (kb : ClassId) (x0 : Int64) (x1 : Int64) (h0 : Heap) (n0 : Nat) (Z0 : n0 ≤ h0.size) (VB : Arv Z h0 b kb .long (2 : Int32) [(.long x0), (.long x1)] (.long (0 : Int64))) (ge1 : n0 ≤ b) :
    MetFree l (⟨"java/util/DualPivotQuicksort", "insertionSort", "([JII)V"⟩ : MethodName) (head1 (Jvm.Cond.code (⟨"java/util/DualPivotQuicksort", "insertionSort", "([JII)V"⟩ : MethodName) jdk_2529_method_15_code 7 none :: ws) ({ frames := 0, cells := 0, slots := 0, locals := 0 } : Room)) (fun a U => a = #[(.ref b), (.int (0 : Int32)), (.int (2 : Int32))] ∧ Z.Warmed39 U.vm ∧ U.heap = h0) (fun _ _ _ _ _ => True) (fun _ U o U' => ∃ v L, o = .returned v ∧ QSo2 Z b kb x0 x1 h0 n0 v U'.heap L ∧ FrameEnd U o U' L ({ frames := 0, cells := 0, slots := 0, locals := 0 } : Room).cells ({ frames := 0, cells := 0, slots := 0, locals := 0 } : Room).slots) := by
  refine MetFree.of_bodySF (plainFor_of_name own_pn_rmIs2) hisR ?_
  intro p e s m args below meth c s₁ Bd hml0 hP hK
  obtain ⟨hargs, hZ, hh⟩ := hP
  have hx := Bd.exec
  have hby := Bd.bytes
  have hml : c.maxLocals = 7 := hml0
  have hown : s.vm.findClass "java/util/DualPivotQuicksort" = some m.cls := findClass_of_methodNamed Bd.named
  have hnm := (name_of_methodNamed Bd.named Bd.method).1
  have hlock : meth.locks = false := Bd.notSynchronized
  have hret0 := Bd.returns
  have X0 : Stand p l e ({ frames := 0, cells := 0, slots := 0, locals := 0 } : Room) s m args below meth c s₁ [] 0 0 := Stand.of_body Bd
  have e0 : s₁.heap = h0 := by rw [← hh, Bd.state]; rfl
  have N0 := Fr.nil n0
  have pre0 : ∀ t, Steps p.tables e below (s₁.setTop (mkF m 0 #[.val (.ref b), .val (.int (0 : Int32)), .val (.int (2 : Int32)), .unset, .unset, .unset, .unset] [])) t → Steps p.tables e below (s₁.setTop (entryFrame m args 7)) t := fun t k => castTop (by rw [hargs]; exact own_ef_rmIs2 m b) k
  clear Bd
  obtain ⟨cl143, Ar143, -, S143, M143, Hs143, -⟩ := id VB
  have hin143 := inb_of S143 (j := ((0 : Int32) + (1 : Int32))) ⟨(by decide), (by decide)⟩
  have hat143 : cl143.slots[(((0 : Int32) + (1 : Int32))).toNatClampNeg]? = some (.long x1) := Has.at Hs143 hin143 rfl
  obtain ⟨cl144, Ar144, -, S144, M144, Hs144, -⟩ := id VB
  have hin144 := inb_of S144 (j := (((0 : Int32) + (1 : Int32)) - (1 : Int32))) ⟨(by decide), (by decide)⟩
  have hat144 : cl144.slots[((((0 : Int32) + (1 : Int32)) - (1 : Int32))).toNatClampNeg]? = some (.long x0) := Has.at Hs144 hin144 rfl
  by_cases hc : x1 < x0
  · skip
    obtain ⟨cl145, Ar145, -, S145, M145, Hs145, -⟩ := id VB
    have hin145 := inb_of S145 (j := (((0 : Int32) + (1 : Int32)) + (-1 : Int32))) ⟨(by decide), (by decide)⟩
    have hat145 : cl145.slots[((((0 : Int32) + (1 : Int32)) + (-1 : Int32))).toNatClampNeg]? = some (.long x0) := Has.at Hs145 hin145 rfl
    obtain ⟨cl146, Ar146, -, S146, M146, Hs146, -⟩ := id VB
    have hin146 := inb_of S146 (j := (((0 : Int32) + (1 : Int32)) + (-1 : Int32))) ⟨(by decide), (by decide)⟩
    have hat146 : cl146.slots[((((0 : Int32) + (1 : Int32)) + (-1 : Int32))).toNatClampNeg]? = some (.long x0) := Has.at Hs146 hin146 rfl
    obtain ⟨cl147, Ar147, q147, S147, M147, Hs147, G147⟩ := id VB
    obtain ⟨T147, h147, X147, e147, W147, st147⟩ := stJ X0 hx hZ e0 Ar147 (j := ((((0 : Int32) + (1 : Int32)) + (-1 : Int32)) + (1 : Int32))) (inb_of S147 ⟨(by decide), (by decide)⟩) (g := (mkF m 55 #[.val (.ref b), .val (.int (0 : Int32)), .val (.int (2 : Int32)), .val (.int (((0 : Int32) + (1 : Int32)) + (-1 : Int32))), .val (.int ((0 : Int32) + (1 : Int32))), .val (.long x1), .second] [(.long x0), (.int ((((0 : Int32) + (1 : Int32)) + (-1 : Int32)) + (1 : Int32))), (.ref b)])) rfl rfl (hb hby d12_55)
    have Z148 : n0 ≤ h147.size := Nat.le_trans Z0 (Keep.of_wr W147).1
    have K149 : Keep h0 h147 [b] := (Keep.refl h0 [b]).wr W147 (Or.inl (List.mem_of_getElem? (i := 0) rfl))
    have N147 := Fr.snoc X147 N0 ge1
    have V147 : Arv Z h147 b kb .long (2 : Int32) [(.long x0), (.long x0)] (.long (0 : Int64)) := Arv.set Ar147 q147 S147 M147 Hs147 G147 rfl W147 1 rfl (Nat.le_of_ble_eq_true rfl)
    obtain ⟨cl150, Ar150, q150, S150, M150, Hs150, G150⟩ := id V147
    obtain ⟨T150, h150, X150, e150, W150, st150⟩ := stJ X147 hx hZ e147 Ar150 (j := (((((0 : Int32) + (1 : Int32)) + (-1 : Int32)) + (-1 : Int32)) + (1 : Int32))) (inb_of S150 ⟨(by decide), (by decide)⟩) (g := (mkF m 65 #[.val (.ref b), .val (.int (0 : Int32)), .val (.int (2 : Int32)), .val (.int ((((0 : Int32) + (1 : Int32)) + (-1 : Int32)) + (-1 : Int32))), .val (.int ((0 : Int32) + (1 : Int32))), .val (.long x1), .second] [(.long x1), (.int (((((0 : Int32) + (1 : Int32)) + (-1 : Int32)) + (-1 : Int32)) + (1 : Int32))), (.ref b)])) rfl rfl (hb hby d12_65)
    have Z151 : n0 ≤ h150.size := Nat.le_trans Z148 (Keep.of_wr W150).1
    have K152 : Keep h0 h150 [b] := K149.wr W150 (Or.inl (List.mem_of_getElem? (i := 0) rfl))
    have N150 := Fr.snoc X150 N147 ge1
    have V150 : Arv Z h150 b kb .long (2 : Int32) [(.long x1), (.long x0)] (.long (0 : Int64)) := Arv.set Ar150 q150 S150 M150 Hs150 G150 rfl W150 0 rfl (Nat.le_of_ble_eq_true rfl)
    obtain ⟨fs, hr, hrun, hended, hW, hsame⟩ := X150.leave (v := none) (fun _ => rfl)
    refine ⟨_, _, pre0 _ ?_, hrun, hended, _, _, rfl, ?_, ⟨_, rfl⟩, hW, hsame.mono (by decide) (by decide)⟩
    · show Steps p.tables e below (s₁.setTop (mkF m 0 #[.val (.ref b), .val (.int (0 : Int32)), .val (.int (2 : Int32)), .unset, .unset, .unset, .unset] [])) _
      refine XS.iloadN X0.here hx rfl (hb hby d12_0) rfl ?_
      show Steps p.tables e below (s₁.setTop (mkF m 1 #[.val (.ref b), .val (.int (0 : Int32)), .val (.int (2 : Int32)), .unset, .unset, .unset, .unset] [(.int (0 : Int32))])) _
      refine XS.istore X0.here hx rfl (hb hby d12_1) rfl (l' := #[.val (.ref b), .val (.int (0 : Int32)), .val (.int (2 : Int32)), .unset, .val (.int (0 : Int32)), .unset, .unset]) rfl ?_
      show Steps p.tables e below (s₁.setTop (mkF m 3 #[.val (.ref b), .val (.int (0 : Int32)), .val (.int (2 : Int32)), .unset, .val (.int (0 : Int32)), .unset, .unset] [])) _
      refine XS.iinc X0.here hx rfl (hb hby d12_3) rfl (l' := #[.val (.ref b), .val (.int (0 : Int32)), .val (.int (2 : Int32)), .unset, .val (.int ((0 : Int32) + (1 : Int32))), .unset, .unset]) rfl ?_
      show Steps p.tables e below (s₁.setTop (mkF m 6 #[.val (.ref b), .val (.int (0 : Int32)), .val (.int (2 : Int32)), .unset, .val (.int ((0 : Int32) + (1 : Int32))), .unset, .unset] [])) _
      refine XS.iload X0.here hx rfl (hb hby d12_6) rfl ?_
      show Steps p.tables e below (s₁.setTop (mkF m 8 #[.val (.ref b), .val (.int (0 : Int32)), .val (.int (2 : Int32)), .unset, .val (.int ((0 : Int32) + (1 : Int32))), .unset, .unset] [(.int ((0 : Int32) + (1 : Int32)))])) _
      refine XS.iloadN X0.here hx rfl (hb hby d12_8) rfl ?_
      show Steps p.tables e below (s₁.setTop (mkF m 9 #[.val (.ref b), .val (.int (0 : Int32)), .val (.int (2 : Int32)), .unset, .val (.int ((0 : Int32) + (1 : Int32))), .unset, .unset] [(.int (2 : Int32)), (.int ((0 : Int32) + (1 : Int32)))])) _
      refine XS.icmpNo X0.here hx rfl (hb hby d12_9) rfl (tlt (by decide)).2.1 ?_
      show Steps p.tables e below (s₁.setTop (mkF m 12 #[.val (.ref b), .val (.int (0 : Int32)), .val (.int (2 : Int32)), .unset, .val (.int ((0 : Int32) + (1 : Int32))), .unset, .unset] [])) _
      refine XS.aloadN X0.here hx rfl (hb hby d12_12) rfl rfl ?_
      show Steps p.tables e below (s₁.setTop (mkF m 13 #[.val (.ref b), .val (.int (0 : Int32)), .val (.int (2 : Int32)), .unset, .val (.int ((0 : Int32) + (1 : Int32))), .unset, .unset] [(.ref b)])) _
      refine XS.iload X0.here hx rfl (hb hby d12_13) rfl ?_
      show Steps p.tables e below (s₁.setTop (mkF m 15 #[.val (.ref b), .val (.int (0 : Int32)), .val (.int (2 : Int32)), .unset, .val (.int ((0 : Int32) + (1 : Int32))), .unset, .unset] [(.int ((0 : Int32) + (1 : Int32))), (.ref b)])) _
      refine XS.dup X0.here hx rfl (hb hby d12_15) rfl rfl ?_
      show Steps p.tables e below (s₁.setTop (mkF m 16 #[.val (.ref b), .val (.int (0 : Int32)), .val (.int (2 : Int32)), .unset, .val (.int ((0 : Int32) + (1 : Int32))), .unset, .unset] [(.int ((0 : Int32) + (1 : Int32))), (.int ((0 : Int32) + (1 : Int32))), (.ref b)])) _
      refine XS.istoreN X0.here hx rfl (hb hby d12_16) rfl (l' := #[.val (.ref b), .val (.int (0 : Int32)), .val (.int (2 : Int32)), .val (.int ((0 : Int32) + (1 : Int32))), .val (.int ((0 : Int32) + (1 : Int32))), .unset, .unset]) rfl ?_
      show Steps p.tables e below (s₁.setTop (mkF m 17 #[.val (.ref b), .val (.int (0 : Int32)), .val (.int (2 : Int32)), .val (.int ((0 : Int32) + (1 : Int32))), .val (.int ((0 : Int32) + (1 : Int32))), .unset, .unset] [(.int ((0 : Int32) + (1 : Int32))), (.ref b)])) _
      refine X0.laload hx (j := ((0 : Int32) + (1 : Int32))) (v := (.long x1)) (by rw [e0]; exact Ar143.1) (State.isArrayOf_alike hZ.alike Ar143.2.1) Ar143.2.2 hin143 hat143 (g := (mkF m 17 #[.val (.ref b), .val (.int (0 : Int32)), .val (.int (2 : Int32)), .val (.int ((0 : Int32) + (1 : Int32))), .val (.int ((0 : Int32) + (1 : Int32))), .unset, .unset] [(.int ((0 : Int32) + (1 : Int32))), (.ref b)])) rfl rfl (hb hby d12_17) _ ?_
      show Steps p.tables e below (s₁.setTop (mkF m 18 #[.val (.ref b), .val (.int (0 : Int32)), .val (.int (2 : Int32)), .val (.int ((0 : Int32) + (1 : Int32))), .val (.int ((0 : Int32) + (1 : Int32))), .unset, .unset] [(.long x1)])) _
      refine XS.lstore X0.here hx rfl (hb hby d12_18) rfl (l' := #[.val (.ref b), .val (.int (0 : Int32)), .val (.int (2 : Int32)), .val (.int ((0 : Int32) + (1 : Int32))), .val (.int ((0 : Int32) + (1 : Int32))), .val (.long x1), .second]) rfl ?_
      show Steps p.tables e below (s₁.setTop (mkF m 20 #[.val (.ref b), .val (.int (0 : Int32)), .val (.int (2 : Int32)), .val (.int ((0 : Int32) + (1 : Int32))), .val (.int ((0 : Int32) + (1 : Int32))), .val (.long x1), .second] [])) _
      refine XS.lload X0.here hx rfl (hb hby d12_20) rfl ?_
      show Steps p.tables e below (s₁.setTop (mkF m 22 #[.val (.ref b), .val (.int (0 : Int32)), .val (.int (2 : Int32)), .val (.int ((0 : Int32) + (1 : Int32))), .val (.int ((0 : Int32) + (1 : Int32))), .val (.long x1), .second] [(.long x1)])) _
      refine XS.aloadN X0.here hx rfl (hb hby d12_22) rfl rfl ?_
      show Steps p.tables e below (s₁.setTop (mkF m 23 #[.val (.ref b), .val (.int (0 : Int32)), .val (.int (2 : Int32)), .val (.int ((0 : Int32) + (1 : Int32))), .val (.int ((0 : Int32) + (1 : Int32))), .val (.long x1), .second] [(.ref b), (.long x1)])) _
      refine XS.iloadN X0.here hx rfl (hb hby d12_23) rfl ?_
      show Steps p.tables e below (s₁.setTop (mkF m 24 #[.val (.ref b), .val (.int (0 : Int32)), .val (.int (2 : Int32)), .val (.int ((0 : Int32) + (1 : Int32))), .val (.int ((0 : Int32) + (1 : Int32))), .val (.long x1), .second] [(.int ((0 : Int32) + (1 : Int32))), (.ref b), (.long x1)])) _
      refine XS.iconst X0.here hx rfl (hb hby d12_24) ?_
      show Steps p.tables e below (s₁.setTop (mkF m 25 #[.val (.ref b), .val (.int (0 : Int32)), .val (.int (2 : Int32)), .val (.int ((0 : Int32) + (1 : Int32))), .val (.int ((0 : Int32) + (1 : Int32))), .val (.long x1), .second] [(.int (1 : Int32)), (.int ((0 : Int32) + (1 : Int32))), (.ref b), (.long x1)])) _
      refine XS.isub X0.here hx rfl (hb hby d12_25) rfl ?_
      show Steps p.tables e below (s₁.setTop (mkF m 26 #[.val (.ref b), .val (.int (0 : Int32)), .val (.int (2 : Int32)), .val (.int ((0 : Int32) + (1 : Int32))), .val (.int ((0 : Int32) + (1 : Int32))), .val (.long x1), .second] [(.int (((0 : Int32) + (1 : Int32)) - (1 : Int32))), (.ref b), (.long x1)])) _
      refine X0.laload hx (j := (((0 : Int32) + (1 : Int32)) - (1 : Int32))) (v := (.long x0)) (by rw [e0]; exact Ar144.1) (State.isArrayOf_alike hZ.alike Ar144.2.1) Ar144.2.2 hin144 hat144 (g := (mkF m 26 #[.val (.ref b), .val (.int (0 : Int32)), .val (.int (2 : Int32)), .val (.int ((0 : Int32) + (1 : Int32))), .val (.int ((0 : Int32) + (1 : Int32))), .val (.long x1), .second] [(.int (((0 : Int32) + (1 : Int32)) - (1 : Int32))), (.ref b), (.long x1)])) rfl rfl (hb hby d12_26) _ ?_
      show Steps p.tables e below (s₁.setTop (mkF m 27 #[.val (.ref b), .val (.int (0 : Int32)), .val (.int (2 : Int32)), .val (.int ((0 : Int32) + (1 : Int32))), .val (.int ((0 : Int32) + (1 : Int32))), .val (.long x1), .second] [(.long x0), (.long x1)])) _
      refine XS.lcmp X0.here hx rfl (hb hby d12_27) rfl ?_
      show Steps p.tables e below (s₁.setTop (mkF m 28 #[.val (.ref b), .val (.int (0 : Int32)), .val (.int (2 : Int32)), .val (.int ((0 : Int32) + (1 : Int32))), .val (.int ((0 : Int32) + (1 : Int32))), .val (.long x1), .second] [(.int (lcmpW x1 x0))])) _
      refine XS.ifNo X0.here hx rfl (hb hby d12_28) rfl ((if0 _ _).trans (tlt ((lw_lt _ _).mpr hc)).2.1) ?_
      show Steps p.tables e below (s₁.setTop (mkF m 31 #[.val (.ref b), .val (.int (0 : Int32)), .val (.int (2 : Int32)), .val (.int ((0 : Int32) + (1 : Int32))), .val (.int ((0 : Int32) + (1 : Int32))), .val (.long x1), .second] [])) _
      refine XS.iinc X0.here hx rfl (hb hby d12_31) rfl (l' := #[.val (.ref b), .val (.int (0 : Int32)), .val (.int (2 : Int32)), .val (.int (((0 : Int32) + (1 : Int32)) + (-1 : Int32))), .val (.int ((0 : Int32) + (1 : Int32))), .val (.long x1), .second]) rfl ?_
      show Steps p.tables e below (s₁.setTop (mkF m 34 #[.val (.ref b), .val (.int (0 : Int32)), .val (.int (2 : Int32)), .val (.int (((0 : Int32) + (1 : Int32)) + (-1 : Int32))), .val (.int ((0 : Int32) + (1 : Int32))), .val (.long x1), .second] [])) _
      refine XS.iloadN X0.here hx rfl (hb hby d12_34) rfl ?_
      show Steps p.tables e below (s₁.setTop (mkF m 35 #[.val (.ref b), .val (.int (0 : Int32)), .val (.int (2 : Int32)), .val (.int (((0 : Int32) + (1 : Int32)) + (-1 : Int32))), .val (.int ((0 : Int32) + (1 : Int32))), .val (.long x1), .second] [(.int (((0 : Int32) + (1 : Int32)) + (-1 : Int32)))])) _
      refine XS.iloadN X0.here hx rfl (hb hby d12_35) rfl ?_
      show Steps p.tables e below (s₁.setTop (mkF m 36 #[.val (.ref b), .val (.int (0 : Int32)), .val (.int (2 : Int32)), .val (.int (((0 : Int32) + (1 : Int32)) + (-1 : Int32))), .val (.int ((0 : Int32) + (1 : Int32))), .val (.long x1), .second] [(.int (0 : Int32)), (.int (((0 : Int32) + (1 : Int32)) + (-1 : Int32)))])) _
      refine XS.icmpNo X0.here hx rfl (hb hby d12_36) rfl (flt (by decide)).1 ?_
      show Steps p.tables e below (s₁.setTop (mkF m 39 #[.val (.ref b), .val (.int (0 : Int32)), .val (.int (2 : Int32)), .val (.int (((0 : Int32) + (1 : Int32)) + (-1 : Int32))), .val (.int ((0 : Int32) + (1 : Int32))), .val (.long x1), .second] [])) _
      refine XS.lload X0.here hx rfl (hb hby d12_39) rfl ?_
      show Steps p.tables e below (s₁.setTop (mkF m 41 #[.val (.ref b), .val (.int (0 : Int32)), .val (.int (2 : Int32)), .val (.int (((0 : Int32) + (1 : Int32)) + (-1 : Int32))), .val (.int ((0 : Int32) + (1 : Int32))), .val (.long x1), .second] [(.long x1)])) _
      refine XS.aloadN X0.here hx rfl (hb hby d12_41) rfl rfl ?_
      show Steps p.tables e below (s₁.setTop (mkF m 42 #[.val (.ref b), .val (.int (0 : Int32)), .val (.int (2 : Int32)), .val (.int (((0 : Int32) + (1 : Int32)) + (-1 : Int32))), .val (.int ((0 : Int32) + (1 : Int32))), .val (.long x1), .second] [(.ref b), (.long x1)])) _
      refine XS.iloadN X0.here hx rfl (hb hby d12_42) rfl ?_
      show Steps p.tables e below (s₁.setTop (mkF m 43 #[.val (.ref b), .val (.int (0 : Int32)), .val (.int (2 : Int32)), .val (.int (((0 : Int32) + (1 : Int32)) + (-1 : Int32))), .val (.int ((0 : Int32) + (1 : Int32))), .val (.long x1), .second] [(.int (((0 : Int32) + (1 : Int32)) + (-1 : Int32))), (.ref b), (.long x1)])) _
      refine X0.laload hx (j := (((0 : Int32) + (1 : Int32)) + (-1 : Int32))) (v := (.long x0)) (by rw [e0]; exact Ar145.1) (State.isArrayOf_alike hZ.alike Ar145.2.1) Ar145.2.2 hin145 hat145 (g := (mkF m 43 #[.val (.ref b), .val (.int (0 : Int32)), .val (.int (2 : Int32)), .val (.int (((0 : Int32) + (1 : Int32)) + (-1 : Int32))), .val (.int ((0 : Int32) + (1 : Int32))), .val (.long x1), .second] [(.int (((0 : Int32) + (1 : Int32)) + (-1 : Int32))), (.ref b), (.long x1)])) rfl rfl (hb hby d12_43) _ ?_
      show Steps p.tables e below (s₁.setTop (mkF m 44 #[.val (.ref b), .val (.int (0 : Int32)), .val (.int (2 : Int32)), .val (.int (((0 : Int32) + (1 : Int32)) + (-1 : Int32))), .val (.int ((0 : Int32) + (1 : Int32))), .val (.long x1), .second] [(.long x0), (.long x1)])) _
      refine XS.lcmp X0.here hx rfl (hb hby d12_44) rfl ?_
      show Steps p.tables e below (s₁.setTop (mkF m 45 #[.val (.ref b), .val (.int (0 : Int32)), .val (.int (2 : Int32)), .val (.int (((0 : Int32) + (1 : Int32)) + (-1 : Int32))), .val (.int ((0 : Int32) + (1 : Int32))), .val (.long x1), .second] [(.int (lcmpW x1 x0))])) _
      refine XS.ifNo X0.here hx rfl (hb hby d12_45) rfl ((if0 _ _).trans (tlt ((lw_lt _ _).mpr hc)).2.1) ?_
      show Steps p.tables e below (s₁.setTop (mkF m 48 #[.val (.ref b), .val (.int (0 : Int32)), .val (.int (2 : Int32)), .val (.int (((0 : Int32) + (1 : Int32)) + (-1 : Int32))), .val (.int ((0 : Int32) + (1 : Int32))), .val (.long x1), .second] [])) _
      refine XS.aloadN X0.here hx rfl (hb hby d12_48) rfl rfl ?_
      show Steps p.tables e below (s₁.setTop (mkF m 49 #[.val (.ref b), .val (.int (0 : Int32)), .val (.int (2 : Int32)), .val (.int (((0 : Int32) + (1 : Int32)) + (-1 : Int32))), .val (.int ((0 : Int32) + (1 : Int32))), .val (.long x1), .second] [(.ref b)])) _
      refine XS.iloadN X0.here hx rfl (hb hby d12_49) rfl ?_
      show Steps p.tables e below (s₁.setTop (mkF m 50 #[.val (.ref b), .val (.int (0 : Int32)), .val (.int (2 : Int32)), .val (.int (((0 : Int32) + (1 : Int32)) + (-1 : Int32))), .val (.int ((0 : Int32) + (1 : Int32))), .val (.long x1), .second] [(.int (((0 : Int32) + (1 : Int32)) + (-1 : Int32))), (.ref b)])) _
      refine XS.iconst X0.here hx rfl (hb hby d12_50) ?_
      show Steps p.tables e below (s₁.setTop (mkF m 51 #[.val (.ref b), .val (.int (0 : Int32)), .val (.int (2 : Int32)), .val (.int (((0 : Int32) + (1 : Int32)) + (-1 : Int32))), .val (.int ((0 : Int32) + (1 : Int32))), .val (.long x1), .second] [(.int (1 : Int32)), (.int (((0 : Int32) + (1 : Int32)) + (-1 : Int32))), (.ref b)])) _
      refine XS.iadd X0.here hx rfl (hb hby d12_51) rfl ?_
      show Steps p.tables e below (s₁.setTop (mkF m 52 #[.val (.ref b), .val (.int (0 : Int32)), .val (.int (2 : Int32)), .val (.int (((0 : Int32) + (1 : Int32)) + (-1 : Int32))), .val (.int ((0 : Int32) + (1 : Int32))), .val (.long x1), .second] [(.int ((((0 : Int32) + (1 : Int32)) + (-1 : Int32)) + (1 : Int32))), (.ref b)])) _
      refine XS.aloadN X0.here hx rfl (hb hby d12_52) rfl rfl ?_
      show Steps p.tables e below (s₁.setTop (mkF m 53 #[.val (.ref b), .val (.int (0 : Int32)), .val (.int (2 : Int32)), .val (.int (((0 : Int32) + (1 : Int32)) + (-1 : Int32))), .val (.int ((0 : Int32) + (1 : Int32))), .val (.long x1), .second] [(.ref b), (.int ((((0 : Int32) + (1 : Int32)) + (-1 : Int32)) + (1 : Int32))), (.ref b)])) _
      refine XS.iloadN X0.here hx rfl (hb hby d12_53) rfl ?_
      show Steps p.tables e below (s₁.setTop (mkF m 54 #[.val (.ref b), .val (.int (0 : Int32)), .val (.int (2 : Int32)), .val (.int (((0 : Int32) + (1 : Int32)) + (-1 : Int32))), .val (.int ((0 : Int32) + (1 : Int32))), .val (.long x1), .second] [(.int (((0 : Int32) + (1 : Int32)) + (-1 : Int32))), (.ref b), (.int ((((0 : Int32) + (1 : Int32)) + (-1 : Int32)) + (1 : Int32))), (.ref b)])) _
      refine X0.laload hx (j := (((0 : Int32) + (1 : Int32)) + (-1 : Int32))) (v := (.long x0)) (by rw [e0]; exact Ar146.1) (State.isArrayOf_alike hZ.alike Ar146.2.1) Ar146.2.2 hin146 hat146 (g := (mkF m 54 #[.val (.ref b), .val (.int (0 : Int32)), .val (.int (2 : Int32)), .val (.int (((0 : Int32) + (1 : Int32)) + (-1 : Int32))), .val (.int ((0 : Int32) + (1 : Int32))), .val (.long x1), .second] [(.int (((0 : Int32) + (1 : Int32)) + (-1 : Int32))), (.ref b), (.int ((((0 : Int32) + (1 : Int32)) + (-1 : Int32)) + (1 : Int32))), (.ref b)])) rfl rfl (hb hby d12_54) _ ?_
      show Steps p.tables e below (s₁.setTop (mkF m 55 #[.val (.ref b), .val (.int (0 : Int32)), .val (.int (2 : Int32)), .val (.int (((0 : Int32) + (1 : Int32)) + (-1 : Int32))), .val (.int ((0 : Int32) + (1 : Int32))), .val (.long x1), .second] [(.long x0), (.int ((((0 : Int32) + (1 : Int32)) + (-1 : Int32)) + (1 : Int32))), (.ref b)])) _
      refine st147 _ ?_
      show Steps p.tables e below (T147.setTop (mkF m 56 #[.val (.ref b), .val (.int (0 : Int32)), .val (.int (2 : Int32)), .val (.int (((0 : Int32) + (1 : Int32)) + (-1 : Int32))), .val (.int ((0 : Int32) + (1 : Int32))), .val (.long x1), .second] [])) _
      refine XS.goto X147.here hx rfl (pc0 := 56) (pc' := 31) rfl (hb hby d12_56) (by decide) (by decide) ?_
      show Steps p.tables e below (T147.setTop (mkF m 31 #[.val (.ref b), .val (.int (0 : Int32)), .val (.int (2 : Int32)), .val (.int (((0 : Int32) + (1 : Int32)) + (-1 : Int32))), .val (.int ((0 : Int32) + (1 : Int32))), .val (.long x1), .second] [])) _
      refine XS.iinc X147.here hx rfl (hb hby d12_31) rfl (l' := #[.val (.ref b), .val (.int (0 : Int32)), .val (.int (2 : Int32)), .val (.int ((((0 : Int32) + (1 : Int32)) + (-1 : Int32)) + (-1 : Int32))), .val (.int ((0 : Int32) + (1 : Int32))), .val (.long x1), .second]) rfl ?_
      show Steps p.tables e below (T147.setTop (mkF m 34 #[.val (.ref b), .val (.int (0 : Int32)), .val (.int (2 : Int32)), .val (.int ((((0 : Int32) + (1 : Int32)) + (-1 : Int32)) + (-1 : Int32))), .val (.int ((0 : Int32) + (1 : Int32))), .val (.long x1), .second] [])) _
      refine XS.iloadN X147.here hx rfl (hb hby d12_34) rfl ?_
      show Steps p.tables e below (T147.setTop (mkF m 35 #[.val (.ref b), .val (.int (0 : Int32)), .val (.int (2 : Int32)), .val (.int ((((0 : Int32) + (1 : Int32)) + (-1 : Int32)) + (-1 : Int32))), .val (.int ((0 : Int32) + (1 : Int32))), .val (.long x1), .second] [(.int ((((0 : Int32) + (1 : Int32)) + (-1 : Int32)) + (-1 : Int32)))])) _
      refine XS.iloadN X147.here hx rfl (hb hby d12_35) rfl ?_
      show Steps p.tables e below (T147.setTop (mkF m 36 #[.val (.ref b), .val (.int (0 : Int32)), .val (.int (2 : Int32)), .val (.int ((((0 : Int32) + (1 : Int32)) + (-1 : Int32)) + (-1 : Int32))), .val (.int ((0 : Int32) + (1 : Int32))), .val (.long x1), .second] [(.int (0 : Int32)), (.int ((((0 : Int32) + (1 : Int32)) + (-1 : Int32)) + (-1 : Int32)))])) _
      refine XS.icmpYes X147.here hx rfl (pc0 := 36) (pc' := 59) rfl (hb hby d12_36) rfl (tlt (by decide)).1 (by decide) (by decide) ?_
      show Steps p.tables e below (T147.setTop (mkF m 59 #[.val (.ref b), .val (.int (0 : Int32)), .val (.int (2 : Int32)), .val (.int ((((0 : Int32) + (1 : Int32)) + (-1 : Int32)) + (-1 : Int32))), .val (.int ((0 : Int32) + (1 : Int32))), .val (.long x1), .second] [])) _
      refine XS.aloadN X147.here hx rfl (hb hby d12_59) rfl rfl ?_
      show Steps p.tables e below (T147.setTop (mkF m 60 #[.val (.ref b), .val (.int (0 : Int32)), .val (.int (2 : Int32)), .val (.int ((((0 : Int32) + (1 : Int32)) + (-1 : Int32)) + (-1 : Int32))), .val (.int ((0 : Int32) + (1 : Int32))), .val (.long x1), .second] [(.ref b)])) _
      refine XS.iloadN X147.here hx rfl (hb hby d12_60) rfl ?_
      show Steps p.tables e below (T147.setTop (mkF m 61 #[.val (.ref b), .val (.int (0 : Int32)), .val (.int (2 : Int32)), .val (.int ((((0 : Int32) + (1 : Int32)) + (-1 : Int32)) + (-1 : Int32))), .val (.int ((0 : Int32) + (1 : Int32))), .val (.long x1), .second] [(.int ((((0 : Int32) + (1 : Int32)) + (-1 : Int32)) + (-1 : Int32))), (.ref b)])) _
      refine XS.iconst X147.here hx rfl (hb hby d12_61) ?_
      show Steps p.tables e below (T147.setTop (mkF m 62 #[.val (.ref b), .val (.int (0 : Int32)), .val (.int (2 : Int32)), .val (.int ((((0 : Int32) + (1 : Int32)) + (-1 : Int32)) + (-1 : Int32))), .val (.int ((0 : Int32) + (1 : Int32))), .val (.long x1), .second] [(.int (1 : Int32)), (.int ((((0 : Int32) + (1 : Int32)) + (-1 : Int32)) + (-1 : Int32))), (.ref b)])) _
      refine XS.iadd X147.here hx rfl (hb hby d12_62) rfl ?_
      show Steps p.tables e below (T147.setTop (mkF m 63 #[.val (.ref b), .val (.int (0 : Int32)), .val (.int (2 : Int32)), .val (.int ((((0 : Int32) + (1 : Int32)) + (-1 : Int32)) + (-1 : Int32))), .val (.int ((0 : Int32) + (1 : Int32))), .val (.long x1), .second] [(.int (((((0 : Int32) + (1 : Int32)) + (-1 : Int32)) + (-1 : Int32)) + (1 : Int32))), (.ref b)])) _
      refine XS.lload X147.here hx rfl (hb hby d12_63) rfl ?_
      show Steps p.tables e below (T147.setTop (mkF m 65 #[.val (.ref b), .val (.int (0 : Int32)), .val (.int (2 : Int32)), .val (.int ((((0 : Int32) + (1 : Int32)) + (-1 : Int32)) + (-1 : Int32))), .val (.int ((0 : Int32) + (1 : Int32))), .val (.long x1), .second] [(.long x1), (.int (((((0 : Int32) + (1 : Int32)) + (-1 : Int32)) + (-1 : Int32)) + (1 : Int32))), (.ref b)])) _
      refine st150 _ ?_
      show Steps p.tables e below (T150.setTop (mkF m 66 #[.val (.ref b), .val (.int (0 : Int32)), .val (.int (2 : Int32)), .val (.int ((((0 : Int32) + (1 : Int32)) + (-1 : Int32)) + (-1 : Int32))), .val (.int ((0 : Int32) + (1 : Int32))), .val (.long x1), .second] [])) _
      refine XS.goto X150.here hx rfl (pc0 := 66) (pc' := 3) rfl (hb hby d12_66) (by decide) (by decide) ?_
      show Steps p.tables e below (T150.setTop (mkF m 3 #[.val (.ref b), .val (.int (0 : Int32)), .val (.int (2 : Int32)), .val (.int ((((0 : Int32) + (1 : Int32)) + (-1 : Int32)) + (-1 : Int32))), .val (.int ((0 : Int32) + (1 : Int32))), .val (.long x1), .second] [])) _
      refine XS.iinc X150.here hx rfl (hb hby d12_3) rfl (l' := #[.val (.ref b), .val (.int (0 : Int32)), .val (.int (2 : Int32)), .val (.int ((((0 : Int32) + (1 : Int32)) + (-1 : Int32)) + (-1 : Int32))), .val (.int (((0 : Int32) + (1 : Int32)) + (1 : Int32))), .val (.long x1), .second]) rfl ?_
      show Steps p.tables e below (T150.setTop (mkF m 6 #[.val (.ref b), .val (.int (0 : Int32)), .val (.int (2 : Int32)), .val (.int ((((0 : Int32) + (1 : Int32)) + (-1 : Int32)) + (-1 : Int32))), .val (.int (((0 : Int32) + (1 : Int32)) + (1 : Int32))), .val (.long x1), .second] [])) _
      refine XS.iload X150.here hx rfl (hb hby d12_6) rfl ?_
      show Steps p.tables e below (T150.setTop (mkF m 8 #[.val (.ref b), .val (.int (0 : Int32)), .val (.int (2 : Int32)), .val (.int ((((0 : Int32) + (1 : Int32)) + (-1 : Int32)) + (-1 : Int32))), .val (.int (((0 : Int32) + (1 : Int32)) + (1 : Int32))), .val (.long x1), .second] [(.int (((0 : Int32) + (1 : Int32)) + (1 : Int32)))])) _
      refine XS.iloadN X150.here hx rfl (hb hby d12_8) rfl ?_
      show Steps p.tables e below (T150.setTop (mkF m 9 #[.val (.ref b), .val (.int (0 : Int32)), .val (.int (2 : Int32)), .val (.int ((((0 : Int32) + (1 : Int32)) + (-1 : Int32)) + (-1 : Int32))), .val (.int (((0 : Int32) + (1 : Int32)) + (1 : Int32))), .val (.long x1), .second] [(.int (2 : Int32)), (.int (((0 : Int32) + (1 : Int32)) + (1 : Int32)))])) _
      refine XS.icmpYes X150.here hx rfl (pc0 := 9) (pc' := 69) rfl (hb hby d12_9) rfl (flt (by decide)).2.1 (by decide) (by decide) ?_
      show Steps p.tables e below (T150.setTop (mkF m 69 #[.val (.ref b), .val (.int (0 : Int32)), .val (.int (2 : Int32)), .val (.int ((((0 : Int32) + (1 : Int32)) + (-1 : Int32)) + (-1 : Int32))), .val (.int (((0 : Int32) + (1 : Int32)) + (1 : Int32))), .val (.long x1), .second] [])) _
      exact X150.returnOut hx hret0 (hb hby d12_69) hr
    · show QSo2 Z b kb x0 x1 h0 n0 _ T150.heap _
      rw [e150]
      exact ⟨rfl, N150, K152, by rw [if_pos hc, if_neg (fun q => Int64.lt_irrefl (Int64.lt_trans q hc))]; exact V150⟩
  · skip
    obtain ⟨fs, hr, hrun, hended, hW, hsame⟩ := X0.leave (v := none) (fun _ => rfl)
    refine ⟨_, _, pre0 _ ?_, hrun, hended, _, _, rfl, ?_, ⟨_, rfl⟩, hW, hsame.mono (by decide) (by decide)⟩
    · show Steps p.tables e below (s₁.setTop (mkF m 0 #[.val (.ref b), .val (.int (0 : Int32)), .val (.int (2 : Int32)), .unset, .unset, .unset, .unset] [])) _
      refine XS.iloadN X0.here hx rfl (hb hby d12_0) rfl ?_
      show Steps p.tables e below (s₁.setTop (mkF m 1 #[.val (.ref b), .val (.int (0 : Int32)), .val (.int (2 : Int32)), .unset, .unset, .unset, .unset] [(.int (0 : Int32))])) _
      refine XS.istore X0.here hx rfl (hb hby d12_1) rfl (l' := #[.val (.ref b), .val (.int (0 : Int32)), .val (.int (2 : Int32)), .unset, .val (.int (0 : Int32)), .unset, .unset]) rfl ?_
      show Steps p.tables e below (s₁.setTop (mkF m 3 #[.val (.ref b), .val (.int (0 : Int32)), .val (.int (2 : Int32)), .unset, .val (.int (0 : Int32)), .unset, .unset] [])) _
      refine XS.iinc X0.here hx rfl (hb hby d12_3) rfl (l' := #[.val (.ref b), .val (.int (0 : Int32)), .val (.int (2 : Int32)), .unset, .val (.int ((0 : Int32) + (1 : Int32))), .unset, .unset]) rfl ?_
      show Steps p.tables e below (s₁.setTop (mkF m 6 #[.val (.ref b), .val (.int (0 : Int32)), .val (.int (2 : Int32)), .unset, .val (.int ((0 : Int32) + (1 : Int32))), .unset, .unset] [])) _
      refine XS.iload X0.here hx rfl (hb hby d12_6) rfl ?_
      show Steps p.tables e below (s₁.setTop (mkF m 8 #[.val (.ref b), .val (.int (0 : Int32)), .val (.int (2 : Int32)), .unset, .val (.int ((0 : Int32) + (1 : Int32))), .unset, .unset] [(.int ((0 : Int32) + (1 : Int32)))])) _
      refine XS.iloadN X0.here hx rfl (hb hby d12_8) rfl ?_
      show Steps p.tables e below (s₁.setTop (mkF m 9 #[.val (.ref b), .val (.int (0 : Int32)), .val (.int (2 : Int32)), .unset, .val (.int ((0 : Int32) + (1 : Int32))), .unset, .unset] [(.int (2 : Int32)), (.int ((0 : Int32) + (1 : Int32)))])) _
      refine XS.icmpNo X0.here hx rfl (hb hby d12_9) rfl (tlt (by decide)).2.1 ?_
      show Steps p.tables e below (s₁.setTop (mkF m 12 #[.val (.ref b), .val (.int (0 : Int32)), .val (.int (2 : Int32)), .unset, .val (.int ((0 : Int32) + (1 : Int32))), .unset, .unset] [])) _
      refine XS.aloadN X0.here hx rfl (hb hby d12_12) rfl rfl ?_
      show Steps p.tables e below (s₁.setTop (mkF m 13 #[.val (.ref b), .val (.int (0 : Int32)), .val (.int (2 : Int32)), .unset, .val (.int ((0 : Int32) + (1 : Int32))), .unset, .unset] [(.ref b)])) _
      refine XS.iload X0.here hx rfl (hb hby d12_13) rfl ?_
      show Steps p.tables e below (s₁.setTop (mkF m 15 #[.val (.ref b), .val (.int (0 : Int32)), .val (.int (2 : Int32)), .unset, .val (.int ((0 : Int32) + (1 : Int32))), .unset, .unset] [(.int ((0 : Int32) + (1 : Int32))), (.ref b)])) _
      refine XS.dup X0.here hx rfl (hb hby d12_15) rfl rfl ?_
      show Steps p.tables e below (s₁.setTop (mkF m 16 #[.val (.ref b), .val (.int (0 : Int32)), .val (.int (2 : Int32)), .unset, .val (.int ((0 : Int32) + (1 : Int32))), .unset, .unset] [(.int ((0 : Int32) + (1 : Int32))), (.int ((0 : Int32) + (1 : Int32))), (.ref b)])) _
      refine XS.istoreN X0.here hx rfl (hb hby d12_16) rfl (l' := #[.val (.ref b), .val (.int (0 : Int32)), .val (.int (2 : Int32)), .val (.int ((0 : Int32) + (1 : Int32))), .val (.int ((0 : Int32) + (1 : Int32))), .unset, .unset]) rfl ?_
      show Steps p.tables e below (s₁.setTop (mkF m 17 #[.val (.ref b), .val (.int (0 : Int32)), .val (.int (2 : Int32)), .val (.int ((0 : Int32) + (1 : Int32))), .val (.int ((0 : Int32) + (1 : Int32))), .unset, .unset] [(.int ((0 : Int32) + (1 : Int32))), (.ref b)])) _
      refine X0.laload hx (j := ((0 : Int32) + (1 : Int32))) (v := (.long x1)) (by rw [e0]; exact Ar143.1) (State.isArrayOf_alike hZ.alike Ar143.2.1) Ar143.2.2 hin143 hat143 (g := (mkF m 17 #[.val (.ref b), .val (.int (0 : Int32)), .val (.int (2 : Int32)), .val (.int ((0 : Int32) + (1 : Int32))), .val (.int ((0 : Int32) + (1 : Int32))), .unset, .unset] [(.int ((0 : Int32) + (1 : Int32))), (.ref b)])) rfl rfl (hb hby d12_17) _ ?_
      show Steps p.tables e below (s₁.setTop (mkF m 18 #[.val (.ref b), .val (.int (0 : Int32)), .val (.int (2 : Int32)), .val (.int ((0 : Int32) + (1 : Int32))), .val (.int ((0 : Int32) + (1 : Int32))), .unset, .unset] [(.long x1)])) _
      refine XS.lstore X0.here hx rfl (hb hby d12_18) rfl (l' := #[.val (.ref b), .val (.int (0 : Int32)), .val (.int (2 : Int32)), .val (.int ((0 : Int32) + (1 : Int32))), .val (.int ((0 : Int32) + (1 : Int32))), .val (.long x1), .second]) rfl ?_
      show Steps p.tables e below (s₁.setTop (mkF m 20 #[.val (.ref b), .val (.int (0 : Int32)), .val (.int (2 : Int32)), .val (.int ((0 : Int32) + (1 : Int32))), .val (.int ((0 : Int32) + (1 : Int32))), .val (.long x1), .second] [])) _
      refine XS.lload X0.here hx rfl (hb hby d12_20) rfl ?_
      show Steps p.tables e below (s₁.setTop (mkF m 22 #[.val (.ref b), .val (.int (0 : Int32)), .val (.int (2 : Int32)), .val (.int ((0 : Int32) + (1 : Int32))), .val (.int ((0 : Int32) + (1 : Int32))), .val (.long x1), .second] [(.long x1)])) _
      refine XS.aloadN X0.here hx rfl (hb hby d12_22) rfl rfl ?_
      show Steps p.tables e below (s₁.setTop (mkF m 23 #[.val (.ref b), .val (.int (0 : Int32)), .val (.int (2 : Int32)), .val (.int ((0 : Int32) + (1 : Int32))), .val (.int ((0 : Int32) + (1 : Int32))), .val (.long x1), .second] [(.ref b), (.long x1)])) _
      refine XS.iloadN X0.here hx rfl (hb hby d12_23) rfl ?_
      show Steps p.tables e below (s₁.setTop (mkF m 24 #[.val (.ref b), .val (.int (0 : Int32)), .val (.int (2 : Int32)), .val (.int ((0 : Int32) + (1 : Int32))), .val (.int ((0 : Int32) + (1 : Int32))), .val (.long x1), .second] [(.int ((0 : Int32) + (1 : Int32))), (.ref b), (.long x1)])) _
      refine XS.iconst X0.here hx rfl (hb hby d12_24) ?_
      show Steps p.tables e below (s₁.setTop (mkF m 25 #[.val (.ref b), .val (.int (0 : Int32)), .val (.int (2 : Int32)), .val (.int ((0 : Int32) + (1 : Int32))), .val (.int ((0 : Int32) + (1 : Int32))), .val (.long x1), .second] [(.int (1 : Int32)), (.int ((0 : Int32) + (1 : Int32))), (.ref b), (.long x1)])) _
      refine XS.isub X0.here hx rfl (hb hby d12_25) rfl ?_
      show Steps p.tables e below (s₁.setTop (mkF m 26 #[.val (.ref b), .val (.int (0 : Int32)), .val (.int (2 : Int32)), .val (.int ((0 : Int32) + (1 : Int32))), .val (.int ((0 : Int32) + (1 : Int32))), .val (.long x1), .second] [(.int (((0 : Int32) + (1 : Int32)) - (1 : Int32))), (.ref b), (.long x1)])) _
      refine X0.laload hx (j := (((0 : Int32) + (1 : Int32)) - (1 : Int32))) (v := (.long x0)) (by rw [e0]; exact Ar144.1) (State.isArrayOf_alike hZ.alike Ar144.2.1) Ar144.2.2 hin144 hat144 (g := (mkF m 26 #[.val (.ref b), .val (.int (0 : Int32)), .val (.int (2 : Int32)), .val (.int ((0 : Int32) + (1 : Int32))), .val (.int ((0 : Int32) + (1 : Int32))), .val (.long x1), .second] [(.int (((0 : Int32) + (1 : Int32)) - (1 : Int32))), (.ref b), (.long x1)])) rfl rfl (hb hby d12_26) _ ?_
      show Steps p.tables e below (s₁.setTop (mkF m 27 #[.val (.ref b), .val (.int (0 : Int32)), .val (.int (2 : Int32)), .val (.int ((0 : Int32) + (1 : Int32))), .val (.int ((0 : Int32) + (1 : Int32))), .val (.long x1), .second] [(.long x0), (.long x1)])) _
      refine XS.lcmp X0.here hx rfl (hb hby d12_27) rfl ?_
      show Steps p.tables e below (s₁.setTop (mkF m 28 #[.val (.ref b), .val (.int (0 : Int32)), .val (.int (2 : Int32)), .val (.int ((0 : Int32) + (1 : Int32))), .val (.int ((0 : Int32) + (1 : Int32))), .val (.long x1), .second] [(.int (lcmpW x1 x0))])) _
      refine XS.ifYes X0.here hx rfl (pc0 := 28) (pc' := 66) rfl (hb hby d12_28) rfl ((if0 _ _).trans (flt (mt (lw_lt _ _).mp hc)).2.1) (by decide) (by decide) ?_
      show Steps p.tables e below (s₁.setTop (mkF m 66 #[.val (.ref b), .val (.int (0 : Int32)), .val (.int (2 : Int32)), .val (.int ((0 : Int32) + (1 : Int32))), .val (.int ((0 : Int32) + (1 : Int32))), .val (.long x1), .second] [])) _
      refine XS.goto X0.here hx rfl (pc0 := 66) (pc' := 3) rfl (hb hby d12_66) (by decide) (by decide) ?_
      show Steps p.tables e below (s₁.setTop (mkF m 3 #[.val (.ref b), .val (.int (0 : Int32)), .val (.int (2 : Int32)), .val (.int ((0 : Int32) + (1 : Int32))), .val (.int ((0 : Int32) + (1 : Int32))), .val (.long x1), .second] [])) _
      refine XS.iinc X0.here hx rfl (hb hby d12_3) rfl (l' := #[.val (.ref b), .val (.int (0 : Int32)), .val (.int (2 : Int32)), .val (.int ((0 : Int32) + (1 : Int32))), .val (.int (((0 : Int32) + (1 : Int32)) + (1 : Int32))), .val (.long x1), .second]) rfl ?_
      show Steps p.tables e below (s₁.setTop (mkF m 6 #[.val (.ref b), .val (.int (0 : Int32)), .val (.int (2 : Int32)), .val (.int ((0 : Int32) + (1 : Int32))), .val (.int (((0 : Int32) + (1 : Int32)) + (1 : Int32))), .val (.long x1), .second] [])) _
      refine XS.iload X0.here hx rfl (hb hby d12_6) rfl ?_
      show Steps p.tables e below (s₁.setTop (mkF m 8 #[.val (.ref b), .val (.int (0 : Int32)), .val (.int (2 : Int32)), .val (.int ((0 : Int32) + (1 : Int32))), .val (.int (((0 : Int32) + (1 : Int32)) + (1 : Int32))), .val (.long x1), .second] [(.int (((0 : Int32) + (1 : Int32)) + (1 : Int32)))])) _
      refine XS.iloadN X0.here hx rfl (hb hby d12_8) rfl ?_
      show Steps p.tables e below (s₁.setTop (mkF m 9 #[.val (.ref b), .val (.int (0 : Int32)), .val (.int (2 : Int32)), .val (.int ((0 : Int32) + (1 : Int32))), .val (.int (((0 : Int32) + (1 : Int32)) + (1 : Int32))), .val (.long x1), .second] [(.int (2 : Int32)), (.int (((0 : Int32) + (1 : Int32)) + (1 : Int32)))])) _
      refine XS.icmpYes X0.here hx rfl (pc0 := 9) (pc' := 69) rfl (hb hby d12_9) rfl (flt (by decide)).2.1 (by decide) (by decide) ?_
      show Steps p.tables e below (s₁.setTop (mkF m 69 #[.val (.ref b), .val (.int (0 : Int32)), .val (.int (2 : Int32)), .val (.int ((0 : Int32) + (1 : Int32))), .val (.int (((0 : Int32) + (1 : Int32)) + (1 : Int32))), .val (.long x1), .second] [])) _
      exact X0.returnOut hx hret0 (hb hby d12_69) hr
    · show QSo2 Z b kb x0 x1 h0 n0 _ s₁.heap _
      rw [e0]
      exact ⟨rfl, N0, (Keep.refl h0 [b]), by rw [if_neg hc, own_ord hc]; exact VB⟩
theorem d11_0 : decode jdk_2529_method_13_code 0 = .ok (.iload 4, 2) := by decide +kernel
theorem d11_2 : decode jdk_2529_method_13_code 2 = .ok (.iconst 1, 1) := by decide +kernel
theorem d11_3 : decode jdk_2529_method_13_code 3 = .ok (.isub, 1) := by decide +kernel
theorem d11_4 : decode jdk_2529_method_13_code 4 = .ok (.istore 5, 2) := by decide +kernel
theorem d11_6 : decode jdk_2529_method_13_code 6 = .ok (.iload 4, 2) := by decide +kernel
theorem d11_8 : decode jdk_2529_method_13_code 8 = .ok (.iload_n 3, 1) := by decide +kernel
theorem d11_9 : decode jdk_2529_method_13_code 9 = .ok (.isub, 1) := by decide +kernel
theorem d11_10 : decode jdk_2529_method_13_code 10 = .ok (.istore 6, 2) := by decide +kernel
theorem d11_12 : decode jdk_2529_method_13_code 12 = .ok (.iload 6, 2) := by decide +kernel
theorem d11_14 : decode jdk_2529_method_13_code 14 = .ok (.bipush 65, 2) := by decide +kernel
theorem d11_16 : decode jdk_2529_method_13_code 16 = .ok (.iload_n 2, 1) := by decide +kernel
theorem d11_17 : decode jdk_2529_method_13_code 17 = .ok (.iadd, 1) := by decide +kernel
theorem d11_18 : decode jdk_2529_method_13_code 18 = .ok (.if_icmp .ge 28, 3) := by decide +kernel
theorem d11_21 : decode jdk_2529_method_13_code 21 = .ok (.iload_n 2, 1) := by decide +kernel
theorem d11_22 : decode jdk_2529_method_13_code 22 = .ok (.iconst 1, 1) := by decide +kernel
theorem d11_23 : decode jdk_2529_method_13_code 23 = .ok (.iand, 1) := by decide +kernel
theorem d11_24 : decode jdk_2529_method_13_code 24 = .ok (.ifCond .le 22, 3) := by decide +kernel
theorem d11_46 : decode jdk_2529_method_13_code 46 = .ok (.iload 6, 2) := by decide +kernel
theorem d11_48 : decode jdk_2529_method_13_code 48 = .ok (.bipush 44, 2) := by decide +kernel
theorem d11_50 : decode jdk_2529_method_13_code 50 = .ok (.if_icmp .ge 11, 3) := by decide +kernel
theorem d11_53 : decode jdk_2529_method_13_code 53 = .ok (.aload_n 1, 1) := by decide +kernel
theorem d11_54 : decode jdk_2529_method_13_code 54 = .ok (.iload_n 3, 1) := by decide +kernel
theorem d11_55 : decode jdk_2529_method_13_code 55 = .ok (.iload 4, 2) := by decide +kernel
theorem d11_57 : decode jdk_2529_method_13_code 57 = .ok (.invokestatic 105, 3) := by decide +kernel
theorem d11_60 : decode jdk_2529_method_13_code 60 = .ok (.return_, 1) := by decide +kernel
theorem own_pn_rmS31 : plainName "java/util/DualPivotQuicksort" = true := by first | (simp [plainName, overriddenIn]; done) | decide +kernel
theorem own_ef_rmS31 (m : MethodId) (b : Addr) : entryFrame m #[.null, (.ref b), (.int (0 : Int32)), (.int (0 : Int32)), (.int (1 : Int32))] 25 = (mkF m 0 #[.val .null, .val (.ref b), .val (.int (0 : Int32)), .val (.int (0 : Int32)), .val (.int (1 : Int32)), .unset, .unset, .unset, .unset, .unset, .unset, .unset, .unset, .unset, .unset, .unset, .unset, .unset, .unset, .unset, .unset, .unset, .unset, .unset, .unset] []) := by first | (simp [entryFrame, mkF, argsToLocals, Value.category]; done) | rfl
set_option maxRecDepth 65536 in
set_option maxHeartbeats 40000000 in
theorem rmS31 (l : Launch) (Z : State) (a0 : Array Value) (hw : ∀ d ∈ tables_1, d.before a0 Z = true) (ws : List Jvm.Cond) (b : Addr) (kb : ClassId) (x0 : Int64) (x1 : Int64) (h0 : Heap) (n0 : Nat) (Z0 : n0 ≤ h0.size) (VB : Arv Z h0 b kb .long (1 : Int32) [(.long x0)] (.long (0 : Int64))) (ge1 : n0 ≤ b) :
    MetFree l (⟨"java/util/DualPivotQuicksort", "sort", "(Ljava/util/DualPivotQuicksort$Sorter;[JIII)V"⟩ : MethodName) (head1 (Jvm.Cond.code (⟨"java/util/DualPivotQuicksort", "sort", "(Ljava/util/DualPivotQuicksort$Sorter;[JIII)V"⟩ : MethodName) jdk_2529_method_13_code 25 none :: ws) ({ frames := 1, cells := 0, slots := 0, locals := 20 } : Room)) (fun a U => a = #[.null, (.ref b), (.int (0 : Int32)), (.int (0 : Int32)), (.int (1 : Int32))] ∧ Z.Warmed39 U.vm ∧ U.heap = h0) (fun _ _ _ _ _ => True) (fun _ U o U' => ∃ v L, o = .returned v ∧ QSo1 Z b kb x0 x1 h0 n0 v U'.heap L ∧ FrameEnd U o U' L ({ frames := 1, cells := 0, slots := 0, locals := 20 } : Room).cells ({ frames := 1, cells := 0, slots := 0, locals := 20 } : Room).slots) := by
  refine MetFree.of_bodySF (plainFor_of_name own_pn_rmS31) hisR ?_
  intro p e s m args below meth c s₁ Bd hml0 hP hK
  obtain ⟨hargs, hZ, hh⟩ := hP
  have hx := Bd.exec
  have hby := Bd.bytes
  have hml : c.maxLocals = 25 := hml0
  have hown : s.vm.findClass "java/util/DualPivotQuicksort" = some m.cls := findClass_of_methodNamed Bd.named
  have hnm := (name_of_methodNamed Bd.named Bd.method).1
  have hlock : meth.locks = false := Bd.notSynchronized
  have hret0 := Bd.returns
  have X0 : Stand p l e ({ frames := 1, cells := 0, slots := 0, locals := 20 } : Room) s m args below meth c s₁ [] 0 0 := Stand.of_body Bd
  have e0 : s₁.heap = h0 := by rw [← hh, Bd.state]; rfl
  have N0 := Fr.nil n0
  have pre0 : ∀ t, Steps p.tables e below (s₁.setTop (mkF m 0 #[.val .null, .val (.ref b), .val (.int (0 : Int32)), .val (.int (0 : Int32)), .val (.int (1 : Int32)), .unset, .unset, .unset, .unset, .unset, .unset, .unset, .unset, .unset, .unset, .unset, .unset, .unset, .unset, .unset, .unset, .unset, .unset, .unset, .unset] [])) t → Steps p.tables e below (s₁.setTop (entryFrame m args 25)) t := fun t k => castTop (by rw [hargs]; exact own_ef_rmS31 m b) k
  clear Bd
  obtain ⟨v153, vmx153, ⟨T153, L153, k153, n153⟩, -, X153, ⟨Lc153, hQ153, l153, y153, z153⟩, st153⟩ := Jvm.LawKit.callS X0 hx (y := (⟨"java/util/DualPivotQuicksort", "insertionSort", "([JII)V"⟩ : MethodName)) hown (mvT hZ (hw _ (List.mem_of_getElem? (i := 57) rfl))) (mvT hZ (hw _ (List.mem_of_getElem? (i := 58) rfl))) (mvT hZ (hw _ (List.mem_of_getElem? (i := 52) rfl))) (mvT hZ (hw _ (List.mem_of_getElem? (i := 59) rfl))) (by decide) (backOf (W := 0) (rmIs1 l Z a0 hw [] b kb x0 x1 h0 n0 Z0 VB ge1) hZ (hw _ (List.mem_of_getElem? (i := 59) rfl)) (hw _ (List.mem_of_getElem? (i := 52) rfl)) (by decide) (by decide)) (g := (mkF m 57 #[.val .null, .val (.ref b), .val (.int (0 : Int32)), .val (.int (0 : Int32)), .val (.int (1 : Int32)), .val (.int ((1 : Int32) - (1 : Int32))), .val (.int ((1 : Int32) - (0 : Int32))), .unset, .unset, .unset, .unset, .unset, .unset, .unset, .unset, .unset, .unset, .unset, .unset, .unset, .unset, .unset, .unset, .unset, .unset] [(.int (1 : Int32)), (.int (0 : Int32)), (.ref b)])) rfl (by rw [hml]; rfl) (argsL := [(.ref b), (.int (0 : Int32)), (.int (1 : Int32))]) (rest := []) (lenOf own_pd2 rfl) rfl (by show 2 * 0 + _ ≤ _; exact Nat.le_of_eq rfl) (hb hby d11_57) (fun _ _ => ⟨rfl, e0, (by decide : 0 + 0 ≤ _), (by decide : 0 + 0 ≤ _)⟩)
  dsimp only [Pt.U, Pt.locs, Pt.cells, Pt.slots] at X153 l153 y153 z153 st153 hQ153
  subst l153 y153 z153
  obtain ⟨rfl, Nq153, K153, V153⟩ := hQ153
  have N153 := Fr.app N0 Nq153
  have Z154 : n0 ≤ T153.heap.size := Nat.le_trans Z0 K153.1
  have K155 : Keep h0 T153.heap [b] := (Keep.refl h0 [b]).trans K153 (allS (Or.inl (List.mem_of_getElem? (i := 0) rfl)) all0)
  obtain ⟨fs, hr, hrun, hended, hW, hsame⟩ := X153.leave (v := none) (fun _ => rfl)
  refine ⟨_, _, pre0 _ ?_, hrun, hended, _, _, rfl, ?_, ⟨_, rfl⟩, hW, hsame.mono (by decide) (by decide)⟩
  · show Steps p.tables e below (s₁.setTop (mkF m 0 #[.val .null, .val (.ref b), .val (.int (0 : Int32)), .val (.int (0 : Int32)), .val (.int (1 : Int32)), .unset, .unset, .unset, .unset, .unset, .unset, .unset, .unset, .unset, .unset, .unset, .unset, .unset, .unset, .unset, .unset, .unset, .unset, .unset, .unset] [])) _
    refine XS.iload X0.here hx rfl (hb hby d11_0) rfl ?_
    show Steps p.tables e below (s₁.setTop (mkF m 2 #[.val .null, .val (.ref b), .val (.int (0 : Int32)), .val (.int (0 : Int32)), .val (.int (1 : Int32)), .unset, .unset, .unset, .unset, .unset, .unset, .unset, .unset, .unset, .unset, .unset, .unset, .unset, .unset, .unset, .unset, .unset, .unset, .unset, .unset] [(.int (1 : Int32))])) _
    refine XS.iconst X0.here hx rfl (hb hby d11_2) ?_
    show Steps p.tables e below (s₁.setTop (mkF m 3 #[.val .null, .val (.ref b), .val (.int (0 : Int32)), .val (.int (0 : Int32)), .val (.int (1 : Int32)), .unset, .unset, .unset, .unset, .unset, .unset, .unset, .unset, .unset, .unset, .unset, .unset, .unset, .unset, .unset, .unset, .unset, .unset, .unset, .unset] [(.int (1 : Int32)), (.int (1 : Int32))])) _
    refine XS.isub X0.here hx rfl (hb hby d11_3) rfl ?_
    show Steps p.tables e below (s₁.setTop (mkF m 4 #[.val .null, .val (.ref b), .val (.int (0 : Int32)), .val (.int (0 : Int32)), .val (.int (1 : Int32)), .unset, .unset, .unset, .unset, .unset, .unset, .unset, .unset, .unset, .unset, .unset, .unset, .unset, .unset, .unset, .unset, .unset, .unset, .unset, .unset] [(.int ((1 : Int32) - (1 : Int32)))])) _
    refine XS.istore X0.here hx rfl (hb hby d11_4) rfl (l' := #[.val .null, .val (.ref b), .val (.int (0 : Int32)), .val (.int (0 : Int32)), .val (.int (1 : Int32)), .val (.int ((1 : Int32) - (1 : Int32))), .unset, .unset, .unset, .unset, .unset, .unset, .unset, .unset, .unset, .unset, .unset, .unset, .unset, .unset, .unset, .unset, .unset, .unset, .unset]) rfl ?_
    show Steps p.tables e below (s₁.setTop (mkF m 6 #[.val .null, .val (.ref b), .val (.int (0 : Int32)), .val (.int (0 : Int32)), .val (.int (1 : Int32)), .val (.int ((1 : Int32) - (1 : Int32))), .unset, .unset, .unset, .unset, .unset, .unset, .unset, .unset, .unset, .unset, .unset, .unset, .unset, .unset, .unset, .unset, .unset, .unset, .unset] [])) _
    refine XS.iload X0.here hx rfl (hb hby d11_6) rfl ?_
    show Steps p.tables e below (s₁.setTop (mkF m 8 #[.val .null, .val (.ref b), .val (.int (0 : Int32)), .val (.int (0 : Int32)), .val (.int (1 : Int32)), .val (.int ((1 : Int32) - (1 : Int32))), .unset, .unset, .unset, .unset, .unset, .unset, .unset, .unset, .unset, .unset, .unset, .unset, .unset, .unset, .unset, .unset, .unset, .unset, .unset] [(.int (1 : Int32))])) _
    refine XS.iloadN X0.here hx rfl (hb hby d11_8) rfl ?_
    show Steps p.tables e below (s₁.setTop (mkF m 9 #[.val .null, .val (.ref b), .val (.int (0 : Int32)), .val (.int (0 : Int32)), .val (.int (1 : Int32)), .val (.int ((1 : Int32) - (1 : Int32))), .unset, .unset, .unset, .unset, .unset, .unset, .unset, .unset, .unset, .unset, .unset, .unset, .unset, .unset, .unset, .unset, .unset, .unset, .unset] [(.int (0 : Int32)), (.int (1 : Int32))])) _
    refine XS.isub X0.here hx rfl (hb hby d11_9) rfl ?_
    show Steps p.tables e below (s₁.setTop (mkF m 10 #[.val .null, .val (.ref b), .val (.int (0 : Int32)), .val (.int (0 : Int32)), .val (.int (1 : Int32)), .val (.int ((1 : Int32) - (1 : Int32))), .unset, .unset, .unset, .unset, .unset, .unset, .unset, .unset, .unset, .unset, .unset, .unset, .unset, .unset, .unset, .unset, .unset, .unset, .unset] [(.int ((1 : Int32) - (0 : Int32)))])) _
    refine XS.istore X0.here hx rfl (hb hby d11_10) rfl (l' := #[.val .null, .val (.ref b), .val (.int (0 : Int32)), .val (.int (0 : Int32)), .val (.int (1 : Int32)), .val (.int ((1 : Int32) - (1 : Int32))), .val (.int ((1 : Int32) - (0 : Int32))), .unset, .unset, .unset, .unset, .unset, .unset, .unset, .unset, .unset, .unset, .unset, .unset, .unset, .unset, .unset, .unset, .unset, .unset]) rfl ?_
    show Steps p.tables e below (s₁.setTop (mkF m 12 #[.val .null, .val (.ref b), .val (.int (0 : Int32)), .val (.int (0 : Int32)), .val (.int (1 : Int32)), .val (.int ((1 : Int32) - (1 : Int32))), .val (.int ((1 : Int32) - (0 : Int32))), .unset, .unset, .unset, .unset, .unset, .unset, .unset, .unset, .unset, .unset, .unset, .unset, .unset, .unset, .unset, .unset, .unset, .unset] [])) _
    refine XS.iload X0.here hx rfl (hb hby d11_12) rfl ?_
    show Steps p.tables e below (s₁.setTop (mkF m 14 #[.val .null, .val (.ref b), .val (.int (0 : Int32)), .val (.int (0 : Int32)), .val (.int (1 : Int32)), .val (.int ((1 : Int32) - (1 : Int32))), .val (.int ((1 : Int32) - (0 : Int32))), .unset, .unset, .unset, .unset, .unset, .unset, .unset, .unset, .unset, .unset, .unset, .unset, .unset, .unset, .unset, .unset, .unset, .unset] [(.int ((1 : Int32) - (0 : Int32)))])) _
    refine XS.bipush X0.here hx rfl (hb hby d11_14) ?_
    show Steps p.tables e below (s₁.setTop (mkF m 16 #[.val .null, .val (.ref b), .val (.int (0 : Int32)), .val (.int (0 : Int32)), .val (.int (1 : Int32)), .val (.int ((1 : Int32) - (1 : Int32))), .val (.int ((1 : Int32) - (0 : Int32))), .unset, .unset, .unset, .unset, .unset, .unset, .unset, .unset, .unset, .unset, .unset, .unset, .unset, .unset, .unset, .unset, .unset, .unset] [(.int (65 : Int32)), (.int ((1 : Int32) - (0 : Int32)))])) _
    refine XS.iloadN X0.here hx rfl (hb hby d11_16) rfl ?_
    show Steps p.tables e below (s₁.setTop (mkF m 17 #[.val .null, .val (.ref b), .val (.int (0 : Int32)), .val (.int (0 : Int32)), .val (.int (1 : Int32)), .val (.int ((1 : Int32) - (1 : Int32))), .val (.int ((1 : Int32) - (0 : Int32))), .unset, .unset, .unset, .unset, .unset, .unset, .unset, .unset, .unset, .unset, .unset, .unset, .unset, .unset, .unset, .unset, .unset, .unset] [(.int (0 : Int32)), (.int (65 : Int32)), (.int ((1 : Int32) - (0 : Int32)))])) _
    refine XS.iadd X0.here hx rfl (hb hby d11_17) rfl ?_
    show Steps p.tables e below (s₁.setTop (mkF m 18 #[.val .null, .val (.ref b), .val (.int (0 : Int32)), .val (.int (0 : Int32)), .val (.int (1 : Int32)), .val (.int ((1 : Int32) - (1 : Int32))), .val (.int ((1 : Int32) - (0 : Int32))), .unset, .unset, .unset, .unset, .unset, .unset, .unset, .unset, .unset, .unset, .unset, .unset, .unset, .unset, .unset, .unset, .unset, .unset] [(.int ((65 : Int32) + (0 : Int32))), (.int ((1 : Int32) - (0 : Int32)))])) _
    refine XS.icmpNo X0.here hx rfl (hb hby d11_18) rfl (tlt (by decide)).2.1 ?_
    show Steps p.tables e below (s₁.setTop (mkF m 21 #[.val .null, .val (.ref b), .val (.int (0 : Int32)), .val (.int (0 : Int32)), .val (.int (1 : Int32)), .val (.int ((1 : Int32) - (1 : Int32))), .val (.int ((1 : Int32) - (0 : Int32))), .unset, .unset, .unset, .unset, .unset, .unset, .unset, .unset, .unset, .unset, .unset, .unset, .unset, .unset, .unset, .unset, .unset, .unset] [])) _
    refine XS.iloadN X0.here hx rfl (hb hby d11_21) rfl ?_
    show Steps p.tables e below (s₁.setTop (mkF m 22 #[.val .null, .val (.ref b), .val (.int (0 : Int32)), .val (.int (0 : Int32)), .val (.int (1 : Int32)), .val (.int ((1 : Int32) - (1 : Int32))), .val (.int ((1 : Int32) - (0 : Int32))), .unset, .unset, .unset, .unset, .unset, .unset, .unset, .unset, .unset, .unset, .unset, .unset, .unset, .unset, .unset, .unset, .unset, .unset] [(.int (0 : Int32))])) _
    refine XS.iconst X0.here hx rfl (hb hby d11_22) ?_
    show Steps p.tables e below (s₁.setTop (mkF m 23 #[.val .null, .val (.ref b), .val (.int (0 : Int32)), .val (.int (0 : Int32)), .val (.int (1 : Int32)), .val (.int ((1 : Int32) - (1 : Int32))), .val (.int ((1 : Int32) - (0 : Int32))), .unset, .unset, .unset, .unset, .unset, .unset, .unset, .unset, .unset, .unset, .unset, .unset, .unset, .unset, .unset, .unset, .unset, .unset] [(.int (1 : Int32)), (.int (0 : Int32))])) _
    refine XS.iand X0.here hx rfl (hb hby d11_23) rfl ?_
    show Steps p.tables e below (s₁.setTop (mkF m 24 #[.val .null, .val (.ref b), .val (.int (0 : Int32)), .val (.int (0 : Int32)), .val (.int (1 : Int32)), .val (.int ((1 : Int32) - (1 : Int32))), .val (.int ((1 : Int32) - (0 : Int32))), .unset, .unset, .unset, .unset, .unset, .unset, .unset, .unset, .unset, .unset, .unset, .unset, .unset, .unset, .unset, .unset, .unset, .unset] [(.int ((0 : Int32) &&& (1 : Int32)))])) _
    refine XS.ifYes X0.here hx rfl (pc0 := 24) (pc' := 46) rfl (hb hby d11_24) rfl ((if0 _ _).trans (flt (by decide)).2.2.2) (by decide) (by decide) ?_
    show Steps p.tables e below (s₁.setTop (mkF m 46 #[.val .null, .val (.ref b), .val (.int (0 : Int32)), .val (.int (0 : Int32)), .val (.int (1 : Int32)), .val (.int ((1 : Int32) - (1 : Int32))), .val (.int ((1 : Int32) - (0 : Int32))), .unset, .unset, .unset, .unset, .unset, .unset, .unset, .unset, .unset, .unset, .unset, .unset, .unset, .unset, .unset, .unset, .unset, .unset] [])) _
    refine XS.iload X0.here hx rfl (hb hby d11_46) rfl ?_
    show Steps p.tables e below (s₁.setTop (mkF m 48 #[.val .null, .val (.ref b), .val (.int (0 : Int32)), .val (.int (0 : Int32)), .val (.int (1 : Int32)), .val (.int ((1 : Int32) - (1 : Int32))), .val (.int ((1 : Int32) - (0 : Int32))), .unset, .unset, .unset, .unset, .unset, .unset, .unset, .unset, .unset, .unset, .unset, .unset, .unset, .unset, .unset, .unset, .unset, .unset] [(.int ((1 : Int32) - (0 : Int32)))])) _
    refine XS.bipush X0.here hx rfl (hb hby d11_48) ?_
    show Steps p.tables e below (s₁.setTop (mkF m 50 #[.val .null, .val (.ref b), .val (.int (0 : Int32)), .val (.int (0 : Int32)), .val (.int (1 : Int32)), .val (.int ((1 : Int32) - (1 : Int32))), .val (.int ((1 : Int32) - (0 : Int32))), .unset, .unset, .unset, .unset, .unset, .unset, .unset, .unset, .unset, .unset, .unset, .unset, .unset, .unset, .unset, .unset, .unset, .unset] [(.int (44 : Int32)), (.int ((1 : Int32) - (0 : Int32)))])) _
    refine XS.icmpNo X0.here hx rfl (hb hby d11_50) rfl (tlt (by decide)).2.1 ?_
    show Steps p.tables e below (s₁.setTop (mkF m 53 #[.val .null, .val (.ref b), .val (.int (0 : Int32)), .val (.int (0 : Int32)), .val (.int (1 : Int32)), .val (.int ((1 : Int32) - (1 : Int32))), .val (.int ((1 : Int32) - (0 : Int32))), .unset, .unset, .unset, .unset, .unset, .unset, .unset, .unset, .unset, .unset, .unset, .unset, .unset, .unset, .unset, .unset, .unset, .unset] [])) _
    refine XS.aloadN X0.here hx rfl (hb hby d11_53) rfl rfl ?_
    show Steps p.tables e below (s₁.setTop (mkF m 54 #[.val .null, .val (.ref b), .val (.int (0 : Int32)), .val (.int (0 : Int32)), .val (.int (1 : Int32)), .val (.int ((1 : Int32) - (1 : Int32))), .val (.int ((1 : Int32) - (0 : Int32))), .unset, .unset, .unset, .unset, .unset, .unset, .unset, .unset, .unset, .unset, .unset, .unset, .unset, .unset, .unset, .unset, .unset, .unset] [(.ref b)])) _
    refine XS.iloadN X0.here hx rfl (hb hby d11_54) rfl ?_
    show Steps p.tables e below (s₁.setTop (mkF m 55 #[.val .null, .val (.ref b), .val (.int (0 : Int32)), .val (.int (0 : Int32)), .val (.int (1 : Int32)), .val (.int ((1 : Int32) - (1 : Int32))), .val (.int ((1 : Int32) - (0 : Int32))), .unset, .unset, .unset, .unset, .unset, .unset, .unset, .unset, .unset, .unset, .unset, .unset, .unset, .unset, .unset, .unset, .unset, .unset] [(.int (0 : Int32)), (.ref b)])) _
    refine XS.iload X0.here hx rfl (hb hby d11_55) rfl ?_
    show Steps p.tables e below (s₁.setTop (mkF m 57 #[.val .null, .val (.ref b), .val (.int (0 : Int32)), .val (.int (0 : Int32)), .val (.int (1 : Int32)), .val (.int ((1 : Int32) - (1 : Int32))), .val (.int ((1 : Int32) - (0 : Int32))), .unset, .unset, .unset, .unset, .unset, .unset, .unset, .unset, .unset, .unset, .unset, .unset, .unset, .unset, .unset, .unset, .unset, .unset] [(.int (1 : Int32)), (.int (0 : Int32)), (.ref b)])) _
    refine st153 _ ?_
    show Steps p.tables e below (T153.setTop (mkF m 60 #[.val .null, .val (.ref b), .val (.int (0 : Int32)), .val (.int (0 : Int32)), .val (.int (1 : Int32)), .val (.int ((1 : Int32) - (1 : Int32))), .val (.int ((1 : Int32) - (0 : Int32))), .unset, .unset, .unset, .unset, .unset, .unset, .unset, .unset, .unset, .unset, .unset, .unset, .unset, .unset, .unset, .unset, .unset, .unset] [])) _
    exact X153.returnOut hx hret0 (hb hby d11_60) hr
  · show QSo1 Z b kb x0 x1 h0 n0 _ T153.heap _
    exact ⟨rfl, N153, K155, V153⟩
theorem own_pn_rmS32 : plainName "java/util/DualPivotQuicksort" = true := by first | (simp [plainName, overriddenIn]; done) | decide +kernel
theorem own_ef_rmS32 (m : MethodId) (b : Addr) : entryFrame m #[.null, (.ref b), (.int (0 : Int32)), (.int (0 : Int32)), (.int (2 : Int32))] 25 = (mkF m 0 #[.val .null, .val (.ref b), .val (.int (0 : Int32)), .val (.int (0 : Int32)), .val (.int (2 : Int32)), .unset, .unset, .unset, .unset, .unset, .unset, .unset, .unset, .unset, .unset, .unset, .unset, .unset, .unset, .unset, .unset, .unset, .unset, .unset, .unset] []) := by first | (simp [entryFrame, mkF, argsToLocals, Value.category]; done) | rfl
set_option maxRecDepth 65536 in
set_option maxHeartbeats 40000000 in
theorem rmS32 (l : Launch) (Z : State) (a0 : Array Value) (hw : ∀ d ∈ tables_1, d.before a0 Z = true) (ws : List Jvm.Cond) (b : Addr) (kb : ClassId) (x0 : Int64) (x1 : Int64) (h0 : Heap) (n0 : Nat) (Z0 : n0 ≤ h0.size) (VB : Arv Z h0 b kb .long (2 : Int32) [(.long x0), (.long x1)] (.long (0 : Int64))) (ge1 : n0 ≤ b) :
    MetFree l (⟨"java/util/DualPivotQuicksort", "sort", "(Ljava/util/DualPivotQuicksort$Sorter;[JIII)V"⟩ : MethodName) (head1 (Jvm.Cond.code (⟨"java/util/DualPivotQuicksort", "sort", "(Ljava/util/DualPivotQuicksort$Sorter;[JIII)V"⟩ : MethodName) jdk_2529_method_13_code 25 none :: ws) ({ frames := 1, cells := 0, slots := 0, locals := 20 } : Room)) (fun a U => a = #[.null, (.ref b), (.int (0 : Int32)), (.int (0 : Int32)), (.int (2 : Int32))] ∧ Z.Warmed39 U.vm ∧ U.heap = h0) (fun _ _ _ _ _ => True) (fun _ U o U' => ∃ v L, o = .returned v ∧ QSo2 Z b kb x0 x1 h0 n0 v U'.heap L ∧ FrameEnd U o U' L ({ frames := 1, cells := 0, slots := 0, locals := 20 } : Room).cells ({ frames := 1, cells := 0, slots := 0, locals := 20 } : Room).slots) := by
  refine MetFree.of_bodySF (plainFor_of_name own_pn_rmS32) hisR ?_
  intro p e s m args below meth c s₁ Bd hml0 hP hK
  obtain ⟨hargs, hZ, hh⟩ := hP
  have hx := Bd.exec
  have hby := Bd.bytes
  have hml : c.maxLocals = 25 := hml0
  have hown : s.vm.findClass "java/util/DualPivotQuicksort" = some m.cls := findClass_of_methodNamed Bd.named
  have hnm := (name_of_methodNamed Bd.named Bd.method).1
  have hlock : meth.locks = false := Bd.notSynchronized
  have hret0 := Bd.returns
  have X0 : Stand p l e ({ frames := 1, cells := 0, slots := 0, locals := 20 } : Room) s m args below meth c s₁ [] 0 0 := Stand.of_body Bd
  have e0 : s₁.heap = h0 := by rw [← hh, Bd.state]; rfl
  have N0 := Fr.nil n0
  have pre0 : ∀ t, Steps p.tables e below (s₁.setTop (mkF m 0 #[.val .null, .val (.ref b), .val (.int (0 : Int32)), .val (.int (0 : Int32)), .val (.int (2 : Int32)), .unset, .unset, .unset, .unset, .unset, .unset, .unset, .unset, .unset, .unset, .unset, .unset, .unset, .unset, .unset, .unset, .unset, .unset, .unset, .unset] [])) t → Steps p.tables e below (s₁.setTop (entryFrame m args 25)) t := fun t k => castTop (by rw [hargs]; exact own_ef_rmS32 m b) k
  clear Bd
  obtain ⟨v156, vmx156, ⟨T156, L156, k156, n156⟩, -, X156, ⟨Lc156, hQ156, l156, y156, z156⟩, st156⟩ := Jvm.LawKit.callS X0 hx (y := (⟨"java/util/DualPivotQuicksort", "insertionSort", "([JII)V"⟩ : MethodName)) hown (mvT hZ (hw _ (List.mem_of_getElem? (i := 57) rfl))) (mvT hZ (hw _ (List.mem_of_getElem? (i := 58) rfl))) (mvT hZ (hw _ (List.mem_of_getElem? (i := 52) rfl))) (mvT hZ (hw _ (List.mem_of_getElem? (i := 59) rfl))) (by decide) (backOf (W := 0) (rmIs2 l Z a0 hw [] b kb x0 x1 h0 n0 Z0 VB ge1) hZ (hw _ (List.mem_of_getElem? (i := 59) rfl)) (hw _ (List.mem_of_getElem? (i := 52) rfl)) (by decide) (by decide)) (g := (mkF m 57 #[.val .null, .val (.ref b), .val (.int (0 : Int32)), .val (.int (0 : Int32)), .val (.int (2 : Int32)), .val (.int ((2 : Int32) - (1 : Int32))), .val (.int ((2 : Int32) - (0 : Int32))), .unset, .unset, .unset, .unset, .unset, .unset, .unset, .unset, .unset, .unset, .unset, .unset, .unset, .unset, .unset, .unset, .unset, .unset] [(.int (2 : Int32)), (.int (0 : Int32)), (.ref b)])) rfl (by rw [hml]; rfl) (argsL := [(.ref b), (.int (0 : Int32)), (.int (2 : Int32))]) (rest := []) (lenOf own_pd2 rfl) rfl (by show 2 * 0 + _ ≤ _; exact Nat.le_of_eq rfl) (hb hby d11_57) (fun _ _ => ⟨rfl, e0, (by decide : 0 + 0 ≤ _), (by decide : 0 + 0 ≤ _)⟩)
  dsimp only [Pt.U, Pt.locs, Pt.cells, Pt.slots] at X156 l156 y156 z156 st156 hQ156
  subst l156 y156 z156
  obtain ⟨rfl, Nq156, K156, V156⟩ := hQ156
  have N156 := Fr.app N0 Nq156
  have Z157 : n0 ≤ T156.heap.size := Nat.le_trans Z0 K156.1
  have K158 : Keep h0 T156.heap [b] := (Keep.refl h0 [b]).trans K156 (allS (Or.inl (List.mem_of_getElem? (i := 0) rfl)) all0)
  obtain ⟨fs, hr, hrun, hended, hW, hsame⟩ := X156.leave (v := none) (fun _ => rfl)
  refine ⟨_, _, pre0 _ ?_, hrun, hended, _, _, rfl, ?_, ⟨_, rfl⟩, hW, hsame.mono (by decide) (by decide)⟩
  · show Steps p.tables e below (s₁.setTop (mkF m 0 #[.val .null, .val (.ref b), .val (.int (0 : Int32)), .val (.int (0 : Int32)), .val (.int (2 : Int32)), .unset, .unset, .unset, .unset, .unset, .unset, .unset, .unset, .unset, .unset, .unset, .unset, .unset, .unset, .unset, .unset, .unset, .unset, .unset, .unset] [])) _
    refine XS.iload X0.here hx rfl (hb hby d11_0) rfl ?_
    show Steps p.tables e below (s₁.setTop (mkF m 2 #[.val .null, .val (.ref b), .val (.int (0 : Int32)), .val (.int (0 : Int32)), .val (.int (2 : Int32)), .unset, .unset, .unset, .unset, .unset, .unset, .unset, .unset, .unset, .unset, .unset, .unset, .unset, .unset, .unset, .unset, .unset, .unset, .unset, .unset] [(.int (2 : Int32))])) _
    refine XS.iconst X0.here hx rfl (hb hby d11_2) ?_
    show Steps p.tables e below (s₁.setTop (mkF m 3 #[.val .null, .val (.ref b), .val (.int (0 : Int32)), .val (.int (0 : Int32)), .val (.int (2 : Int32)), .unset, .unset, .unset, .unset, .unset, .unset, .unset, .unset, .unset, .unset, .unset, .unset, .unset, .unset, .unset, .unset, .unset, .unset, .unset, .unset] [(.int (1 : Int32)), (.int (2 : Int32))])) _
    refine XS.isub X0.here hx rfl (hb hby d11_3) rfl ?_
    show Steps p.tables e below (s₁.setTop (mkF m 4 #[.val .null, .val (.ref b), .val (.int (0 : Int32)), .val (.int (0 : Int32)), .val (.int (2 : Int32)), .unset, .unset, .unset, .unset, .unset, .unset, .unset, .unset, .unset, .unset, .unset, .unset, .unset, .unset, .unset, .unset, .unset, .unset, .unset, .unset] [(.int ((2 : Int32) - (1 : Int32)))])) _
    refine XS.istore X0.here hx rfl (hb hby d11_4) rfl (l' := #[.val .null, .val (.ref b), .val (.int (0 : Int32)), .val (.int (0 : Int32)), .val (.int (2 : Int32)), .val (.int ((2 : Int32) - (1 : Int32))), .unset, .unset, .unset, .unset, .unset, .unset, .unset, .unset, .unset, .unset, .unset, .unset, .unset, .unset, .unset, .unset, .unset, .unset, .unset]) rfl ?_
    show Steps p.tables e below (s₁.setTop (mkF m 6 #[.val .null, .val (.ref b), .val (.int (0 : Int32)), .val (.int (0 : Int32)), .val (.int (2 : Int32)), .val (.int ((2 : Int32) - (1 : Int32))), .unset, .unset, .unset, .unset, .unset, .unset, .unset, .unset, .unset, .unset, .unset, .unset, .unset, .unset, .unset, .unset, .unset, .unset, .unset] [])) _
    refine XS.iload X0.here hx rfl (hb hby d11_6) rfl ?_
    show Steps p.tables e below (s₁.setTop (mkF m 8 #[.val .null, .val (.ref b), .val (.int (0 : Int32)), .val (.int (0 : Int32)), .val (.int (2 : Int32)), .val (.int ((2 : Int32) - (1 : Int32))), .unset, .unset, .unset, .unset, .unset, .unset, .unset, .unset, .unset, .unset, .unset, .unset, .unset, .unset, .unset, .unset, .unset, .unset, .unset] [(.int (2 : Int32))])) _
    refine XS.iloadN X0.here hx rfl (hb hby d11_8) rfl ?_
    show Steps p.tables e below (s₁.setTop (mkF m 9 #[.val .null, .val (.ref b), .val (.int (0 : Int32)), .val (.int (0 : Int32)), .val (.int (2 : Int32)), .val (.int ((2 : Int32) - (1 : Int32))), .unset, .unset, .unset, .unset, .unset, .unset, .unset, .unset, .unset, .unset, .unset, .unset, .unset, .unset, .unset, .unset, .unset, .unset, .unset] [(.int (0 : Int32)), (.int (2 : Int32))])) _
    refine XS.isub X0.here hx rfl (hb hby d11_9) rfl ?_
    show Steps p.tables e below (s₁.setTop (mkF m 10 #[.val .null, .val (.ref b), .val (.int (0 : Int32)), .val (.int (0 : Int32)), .val (.int (2 : Int32)), .val (.int ((2 : Int32) - (1 : Int32))), .unset, .unset, .unset, .unset, .unset, .unset, .unset, .unset, .unset, .unset, .unset, .unset, .unset, .unset, .unset, .unset, .unset, .unset, .unset] [(.int ((2 : Int32) - (0 : Int32)))])) _
    refine XS.istore X0.here hx rfl (hb hby d11_10) rfl (l' := #[.val .null, .val (.ref b), .val (.int (0 : Int32)), .val (.int (0 : Int32)), .val (.int (2 : Int32)), .val (.int ((2 : Int32) - (1 : Int32))), .val (.int ((2 : Int32) - (0 : Int32))), .unset, .unset, .unset, .unset, .unset, .unset, .unset, .unset, .unset, .unset, .unset, .unset, .unset, .unset, .unset, .unset, .unset, .unset]) rfl ?_
    show Steps p.tables e below (s₁.setTop (mkF m 12 #[.val .null, .val (.ref b), .val (.int (0 : Int32)), .val (.int (0 : Int32)), .val (.int (2 : Int32)), .val (.int ((2 : Int32) - (1 : Int32))), .val (.int ((2 : Int32) - (0 : Int32))), .unset, .unset, .unset, .unset, .unset, .unset, .unset, .unset, .unset, .unset, .unset, .unset, .unset, .unset, .unset, .unset, .unset, .unset] [])) _
    refine XS.iload X0.here hx rfl (hb hby d11_12) rfl ?_
    show Steps p.tables e below (s₁.setTop (mkF m 14 #[.val .null, .val (.ref b), .val (.int (0 : Int32)), .val (.int (0 : Int32)), .val (.int (2 : Int32)), .val (.int ((2 : Int32) - (1 : Int32))), .val (.int ((2 : Int32) - (0 : Int32))), .unset, .unset, .unset, .unset, .unset, .unset, .unset, .unset, .unset, .unset, .unset, .unset, .unset, .unset, .unset, .unset, .unset, .unset] [(.int ((2 : Int32) - (0 : Int32)))])) _
    refine XS.bipush X0.here hx rfl (hb hby d11_14) ?_
    show Steps p.tables e below (s₁.setTop (mkF m 16 #[.val .null, .val (.ref b), .val (.int (0 : Int32)), .val (.int (0 : Int32)), .val (.int (2 : Int32)), .val (.int ((2 : Int32) - (1 : Int32))), .val (.int ((2 : Int32) - (0 : Int32))), .unset, .unset, .unset, .unset, .unset, .unset, .unset, .unset, .unset, .unset, .unset, .unset, .unset, .unset, .unset, .unset, .unset, .unset] [(.int (65 : Int32)), (.int ((2 : Int32) - (0 : Int32)))])) _
    refine XS.iloadN X0.here hx rfl (hb hby d11_16) rfl ?_
    show Steps p.tables e below (s₁.setTop (mkF m 17 #[.val .null, .val (.ref b), .val (.int (0 : Int32)), .val (.int (0 : Int32)), .val (.int (2 : Int32)), .val (.int ((2 : Int32) - (1 : Int32))), .val (.int ((2 : Int32) - (0 : Int32))), .unset, .unset, .unset, .unset, .unset, .unset, .unset, .unset, .unset, .unset, .unset, .unset, .unset, .unset, .unset, .unset, .unset, .unset] [(.int (0 : Int32)), (.int (65 : Int32)), (.int ((2 : Int32) - (0 : Int32)))])) _
    refine XS.iadd X0.here hx rfl (hb hby d11_17) rfl ?_
    show Steps p.tables e below (s₁.setTop (mkF m 18 #[.val .null, .val (.ref b), .val (.int (0 : Int32)), .val (.int (0 : Int32)), .val (.int (2 : Int32)), .val (.int ((2 : Int32) - (1 : Int32))), .val (.int ((2 : Int32) - (0 : Int32))), .unset, .unset, .unset, .unset, .unset, .unset, .unset, .unset, .unset, .unset, .unset, .unset, .unset, .unset, .unset, .unset, .unset, .unset] [(.int ((65 : Int32) + (0 : Int32))), (.int ((2 : Int32) - (0 : Int32)))])) _
    refine XS.icmpNo X0.here hx rfl (hb hby d11_18) rfl (tlt (by decide)).2.1 ?_
    show Steps p.tables e below (s₁.setTop (mkF m 21 #[.val .null, .val (.ref b), .val (.int (0 : Int32)), .val (.int (0 : Int32)), .val (.int (2 : Int32)), .val (.int ((2 : Int32) - (1 : Int32))), .val (.int ((2 : Int32) - (0 : Int32))), .unset, .unset, .unset, .unset, .unset, .unset, .unset, .unset, .unset, .unset, .unset, .unset, .unset, .unset, .unset, .unset, .unset, .unset] [])) _
    refine XS.iloadN X0.here hx rfl (hb hby d11_21) rfl ?_
    show Steps p.tables e below (s₁.setTop (mkF m 22 #[.val .null, .val (.ref b), .val (.int (0 : Int32)), .val (.int (0 : Int32)), .val (.int (2 : Int32)), .val (.int ((2 : Int32) - (1 : Int32))), .val (.int ((2 : Int32) - (0 : Int32))), .unset, .unset, .unset, .unset, .unset, .unset, .unset, .unset, .unset, .unset, .unset, .unset, .unset, .unset, .unset, .unset, .unset, .unset] [(.int (0 : Int32))])) _
    refine XS.iconst X0.here hx rfl (hb hby d11_22) ?_
    show Steps p.tables e below (s₁.setTop (mkF m 23 #[.val .null, .val (.ref b), .val (.int (0 : Int32)), .val (.int (0 : Int32)), .val (.int (2 : Int32)), .val (.int ((2 : Int32) - (1 : Int32))), .val (.int ((2 : Int32) - (0 : Int32))), .unset, .unset, .unset, .unset, .unset, .unset, .unset, .unset, .unset, .unset, .unset, .unset, .unset, .unset, .unset, .unset, .unset, .unset] [(.int (1 : Int32)), (.int (0 : Int32))])) _
    refine XS.iand X0.here hx rfl (hb hby d11_23) rfl ?_
    show Steps p.tables e below (s₁.setTop (mkF m 24 #[.val .null, .val (.ref b), .val (.int (0 : Int32)), .val (.int (0 : Int32)), .val (.int (2 : Int32)), .val (.int ((2 : Int32) - (1 : Int32))), .val (.int ((2 : Int32) - (0 : Int32))), .unset, .unset, .unset, .unset, .unset, .unset, .unset, .unset, .unset, .unset, .unset, .unset, .unset, .unset, .unset, .unset, .unset, .unset] [(.int ((0 : Int32) &&& (1 : Int32)))])) _
    refine XS.ifYes X0.here hx rfl (pc0 := 24) (pc' := 46) rfl (hb hby d11_24) rfl ((if0 _ _).trans (flt (by decide)).2.2.2) (by decide) (by decide) ?_
    show Steps p.tables e below (s₁.setTop (mkF m 46 #[.val .null, .val (.ref b), .val (.int (0 : Int32)), .val (.int (0 : Int32)), .val (.int (2 : Int32)), .val (.int ((2 : Int32) - (1 : Int32))), .val (.int ((2 : Int32) - (0 : Int32))), .unset, .unset, .unset, .unset, .unset, .unset, .unset, .unset, .unset, .unset, .unset, .unset, .unset, .unset, .unset, .unset, .unset, .unset] [])) _
    refine XS.iload X0.here hx rfl (hb hby d11_46) rfl ?_
    show Steps p.tables e below (s₁.setTop (mkF m 48 #[.val .null, .val (.ref b), .val (.int (0 : Int32)), .val (.int (0 : Int32)), .val (.int (2 : Int32)), .val (.int ((2 : Int32) - (1 : Int32))), .val (.int ((2 : Int32) - (0 : Int32))), .unset, .unset, .unset, .unset, .unset, .unset, .unset, .unset, .unset, .unset, .unset, .unset, .unset, .unset, .unset, .unset, .unset, .unset] [(.int ((2 : Int32) - (0 : Int32)))])) _
    refine XS.bipush X0.here hx rfl (hb hby d11_48) ?_
    show Steps p.tables e below (s₁.setTop (mkF m 50 #[.val .null, .val (.ref b), .val (.int (0 : Int32)), .val (.int (0 : Int32)), .val (.int (2 : Int32)), .val (.int ((2 : Int32) - (1 : Int32))), .val (.int ((2 : Int32) - (0 : Int32))), .unset, .unset, .unset, .unset, .unset, .unset, .unset, .unset, .unset, .unset, .unset, .unset, .unset, .unset, .unset, .unset, .unset, .unset] [(.int (44 : Int32)), (.int ((2 : Int32) - (0 : Int32)))])) _
    refine XS.icmpNo X0.here hx rfl (hb hby d11_50) rfl (tlt (by decide)).2.1 ?_
    show Steps p.tables e below (s₁.setTop (mkF m 53 #[.val .null, .val (.ref b), .val (.int (0 : Int32)), .val (.int (0 : Int32)), .val (.int (2 : Int32)), .val (.int ((2 : Int32) - (1 : Int32))), .val (.int ((2 : Int32) - (0 : Int32))), .unset, .unset, .unset, .unset, .unset, .unset, .unset, .unset, .unset, .unset, .unset, .unset, .unset, .unset, .unset, .unset, .unset, .unset] [])) _
    refine XS.aloadN X0.here hx rfl (hb hby d11_53) rfl rfl ?_
    show Steps p.tables e below (s₁.setTop (mkF m 54 #[.val .null, .val (.ref b), .val (.int (0 : Int32)), .val (.int (0 : Int32)), .val (.int (2 : Int32)), .val (.int ((2 : Int32) - (1 : Int32))), .val (.int ((2 : Int32) - (0 : Int32))), .unset, .unset, .unset, .unset, .unset, .unset, .unset, .unset, .unset, .unset, .unset, .unset, .unset, .unset, .unset, .unset, .unset, .unset] [(.ref b)])) _
    refine XS.iloadN X0.here hx rfl (hb hby d11_54) rfl ?_
    show Steps p.tables e below (s₁.setTop (mkF m 55 #[.val .null, .val (.ref b), .val (.int (0 : Int32)), .val (.int (0 : Int32)), .val (.int (2 : Int32)), .val (.int ((2 : Int32) - (1 : Int32))), .val (.int ((2 : Int32) - (0 : Int32))), .unset, .unset, .unset, .unset, .unset, .unset, .unset, .unset, .unset, .unset, .unset, .unset, .unset, .unset, .unset, .unset, .unset, .unset] [(.int (0 : Int32)), (.ref b)])) _
    refine XS.iload X0.here hx rfl (hb hby d11_55) rfl ?_
    show Steps p.tables e below (s₁.setTop (mkF m 57 #[.val .null, .val (.ref b), .val (.int (0 : Int32)), .val (.int (0 : Int32)), .val (.int (2 : Int32)), .val (.int ((2 : Int32) - (1 : Int32))), .val (.int ((2 : Int32) - (0 : Int32))), .unset, .unset, .unset, .unset, .unset, .unset, .unset, .unset, .unset, .unset, .unset, .unset, .unset, .unset, .unset, .unset, .unset, .unset] [(.int (2 : Int32)), (.int (0 : Int32)), (.ref b)])) _
    refine st156 _ ?_
    show Steps p.tables e below (T156.setTop (mkF m 60 #[.val .null, .val (.ref b), .val (.int (0 : Int32)), .val (.int (0 : Int32)), .val (.int (2 : Int32)), .val (.int ((2 : Int32) - (1 : Int32))), .val (.int ((2 : Int32) - (0 : Int32))), .unset, .unset, .unset, .unset, .unset, .unset, .unset, .unset, .unset, .unset, .unset, .unset, .unset, .unset, .unset, .unset, .unset, .unset] [])) _
    exact X156.returnOut hx hret0 (hb hby d11_60) hr
  · show QSo2 Z b kb x0 x1 h0 n0 _ T156.heap _
    exact ⟨rfl, N156, K158, V156⟩
theorem d10_0 : decode jdk_2529_method_12_code 0 = .ok (.iload_n 3, 1) := by decide +kernel
theorem d10_1 : decode jdk_2529_method_12_code 1 = .ok (.iload_n 2, 1) := by decide +kernel
theorem d10_2 : decode jdk_2529_method_12_code 2 = .ok (.isub, 1) := by decide +kernel
theorem d10_3 : decode jdk_2529_method_12_code 3 = .ok (.istore 4, 2) := by decide +kernel
theorem d10_5 : decode jdk_2529_method_12_code 5 = .ok (.iload_n 1, 1) := by decide +kernel
theorem d10_6 : decode jdk_2529_method_12_code 6 = .ok (.iconst 1, 1) := by decide +kernel
theorem d10_7 : decode jdk_2529_method_12_code 7 = .ok (.if_icmp .le 61, 3) := by decide +kernel
theorem d10_68 : decode jdk_2529_method_12_code 68 = .ok (.aconst_null, 1) := by decide +kernel
theorem d10_69 : decode jdk_2529_method_12_code 69 = .ok (.aload_n 0, 1) := by decide +kernel
theorem d10_70 : decode jdk_2529_method_12_code 70 = .ok (.iconst 0, 1) := by decide +kernel
theorem d10_71 : decode jdk_2529_method_12_code 71 = .ok (.iload_n 2, 1) := by decide +kernel
theorem d10_72 : decode jdk_2529_method_12_code 72 = .ok (.iload_n 3, 1) := by decide +kernel
theorem d10_73 : decode jdk_2529_method_12_code 73 = .ok (.invokestatic 99, 3) := by decide +kernel
theorem d10_76 : decode jdk_2529_method_12_code 76 = .ok (.return_, 1) := by decide +kernel
theorem own_pn_rmS21 : plainName "java/util/DualPivotQuicksort" = true := by first | (simp [plainName, overriddenIn]; done) | decide +kernel
theorem own_ef_rmS21 (m : MethodId) (b : Addr) : entryFrame m #[(.ref b), (.int (0 : Int32)), (.int (0 : Int32)), (.int (1 : Int32))] 7 = (mkF m 0 #[.val (.ref b), .val (.int (0 : Int32)), .val (.int (0 : Int32)), .val (.int (1 : Int32)), .unset, .unset, .unset] []) := by first | (simp [entryFrame, mkF, argsToLocals, Value.category]; done) | rfl
set_option maxRecDepth 65536 in
set_option maxHeartbeats 40000000 in
theorem rmS21 (l : Launch) (Z : State) (a0 : Array Value) (hw : ∀ d ∈ tables_1, d.before a0 Z = true) (ws : List Jvm.Cond) (b : Addr) (kb : ClassId) (x0 : Int64) (x1 : Int64) (h0 : Heap) (n0 : Nat) (Z0 : n0 ≤ h0.size) (VB : Arv Z h0 b kb .long (1 : Int32) [(.long x0)] (.long (0 : Int64))) (ge1 : n0 ≤ b) :
    MetFree l (⟨"java/util/DualPivotQuicksort", "sort", "([JIII)V"⟩ : MethodName) (head1 (Jvm.Cond.code (⟨"java/util/DualPivotQuicksort", "sort", "([JIII)V"⟩ : MethodName) jdk_2529_method_12_code 7 none :: ws) ({ frames := 2, cells := 0, slots := 0, locals := 58 } : Room)) (fun a U => a = #[(.ref b), (.int (0 : Int32)), (.int (0 : Int32)), (.int (1 : Int32))] ∧ Z.Warmed39 U.vm ∧ U.heap = h0) (fun _ _ _ _ _ => True) (fun _ U o U' => ∃ v L, o = .returned v ∧ QSo1 Z b kb x0 x1 h0 n0 v U'.heap L ∧ FrameEnd U o U' L ({ frames := 2, cells := 0, slots := 0, locals := 58 } : Room).cells ({ frames := 2, cells := 0, slots := 0, locals := 58 } : Room).slots) := by
  refine MetFree.of_bodySF (plainFor_of_name own_pn_rmS21) hisR ?_
  intro p e s m args below meth c s₁ Bd hml0 hP hK
  obtain ⟨hargs, hZ, hh⟩ := hP
  have hx := Bd.exec
  have hby := Bd.bytes
  have hml : c.maxLocals = 7 := hml0
  have hown : s.vm.findClass "java/util/DualPivotQuicksort" = some m.cls := findClass_of_methodNamed Bd.named
  have hnm := (name_of_methodNamed Bd.named Bd.method).1
  have hlock : meth.locks = false := Bd.notSynchronized
  have hret0 := Bd.returns
  have X0 : Stand p l e ({ frames := 2, cells := 0, slots := 0, locals := 58 } : Room) s m args below meth c s₁ [] 0 0 := Stand.of_body Bd
  have e0 : s₁.heap = h0 := by rw [← hh, Bd.state]; rfl
  have N0 := Fr.nil n0
  have pre0 : ∀ t, Steps p.tables e below (s₁.setTop (mkF m 0 #[.val (.ref b), .val (.int (0 : Int32)), .val (.int (0 : Int32)), .val (.int (1 : Int32)), .unset, .unset, .unset] [])) t → Steps p.tables e below (s₁.setTop (entryFrame m args 7)) t := fun t k => castTop (by rw [hargs]; exact own_ef_rmS21 m b) k
  clear Bd
  obtain ⟨v159, vmx159, ⟨T159, L159, k159, n159⟩, -, X159, ⟨Lc159, hQ159, l159, y159, z159⟩, st159⟩ := Jvm.LawKit.callS X0 hx (y := (⟨"java/util/DualPivotQuicksort", "sort", "(Ljava/util/DualPivotQuicksort$Sorter;[JIII)V"⟩ : MethodName)) hown (mvT hZ (hw _ (List.mem_of_getElem? (i := 54) rfl))) (mvT hZ (hw _ (List.mem_of_getElem? (i := 55) rfl))) (mvT hZ (hw _ (List.mem_of_getElem? (i := 52) rfl))) (mvT hZ (hw _ (List.mem_of_getElem? (i := 56) rfl))) (by decide) (backOf (W := 0) (rmS31 l Z a0 hw [] b kb x0 x1 h0 n0 Z0 VB ge1) hZ (hw _ (List.mem_of_getElem? (i := 56) rfl)) (hw _ (List.mem_of_getElem? (i := 52) rfl)) (by decide) (by decide)) (g := (mkF m 73 #[.val (.ref b), .val (.int (0 : Int32)), .val (.int (0 : Int32)), .val (.int (1 : Int32)), .val (.int ((1 : Int32) - (0 : Int32))), .unset, .unset] [(.int (1 : Int32)), (.int (0 : Int32)), (.int (0 : Int32)), (.ref b), .null])) rfl (by rw [hml]; rfl) (argsL := [.null, (.ref b), (.int (0 : Int32)), (.int (0 : Int32)), (.int (1 : Int32))]) (rest := []) (lenOf own_pd3 rfl) rfl (by show 2 * 0 + _ ≤ _; exact Nat.le_of_eq rfl) (hb hby d10_73) (fun _ _ => ⟨rfl, e0, (by decide : 0 + 0 ≤ _), (by decide : 0 + 0 ≤ _)⟩)
  dsimp only [Pt.U, Pt.locs, Pt.cells, Pt.slots] at X159 l159 y159 z159 st159 hQ159
  subst l159 y159 z159
  obtain ⟨rfl, Nq159, K159, V159⟩ := hQ159
  have N159 := Fr.app N0 Nq159
  have Z160 : n0 ≤ T159.heap.size := Nat.le_trans Z0 K159.1
  have K161 : Keep h0 T159.heap [b] := (Keep.refl h0 [b]).trans K159 (allS (Or.inl (List.mem_of_getElem? (i := 0) rfl)) all0)
  obtain ⟨fs, hr, hrun, hended, hW, hsame⟩ := X159.leave (v := none) (fun _ => rfl)
  refine ⟨_, _, pre0 _ ?_, hrun, hended, _, _, rfl, ?_, ⟨_, rfl⟩, hW, hsame.mono (by decide) (by decide)⟩
  · show Steps p.tables e below (s₁.setTop (mkF m 0 #[.val (.ref b), .val (.int (0 : Int32)), .val (.int (0 : Int32)), .val (.int (1 : Int32)), .unset, .unset, .unset] [])) _
    refine XS.iloadN X0.here hx rfl (hb hby d10_0) rfl ?_
    show Steps p.tables e below (s₁.setTop (mkF m 1 #[.val (.ref b), .val (.int (0 : Int32)), .val (.int (0 : Int32)), .val (.int (1 : Int32)), .unset, .unset, .unset] [(.int (1 : Int32))])) _
    refine XS.iloadN X0.here hx rfl (hb hby d10_1) rfl ?_
    show Steps p.tables e below (s₁.setTop (mkF m 2 #[.val (.ref b), .val (.int (0 : Int32)), .val (.int (0 : Int32)), .val (.int (1 : Int32)), .unset, .unset, .unset] [(.int (0 : Int32)), (.int (1 : Int32))])) _
    refine XS.isub X0.here hx rfl (hb hby d10_2) rfl ?_
    show Steps p.tables e below (s₁.setTop (mkF m 3 #[.val (.ref b), .val (.int (0 : Int32)), .val (.int (0 : Int32)), .val (.int (1 : Int32)), .unset, .unset, .unset] [(.int ((1 : Int32) - (0 : Int32)))])) _
    refine XS.istore X0.here hx rfl (hb hby d10_3) rfl (l' := #[.val (.ref b), .val (.int (0 : Int32)), .val (.int (0 : Int32)), .val (.int (1 : Int32)), .val (.int ((1 : Int32) - (0 : Int32))), .unset, .unset]) rfl ?_
    show Steps p.tables e below (s₁.setTop (mkF m 5 #[.val (.ref b), .val (.int (0 : Int32)), .val (.int (0 : Int32)), .val (.int (1 : Int32)), .val (.int ((1 : Int32) - (0 : Int32))), .unset, .unset] [])) _
    refine XS.iloadN X0.here hx rfl (hb hby d10_5) rfl ?_
    show Steps p.tables e below (s₁.setTop (mkF m 6 #[.val (.ref b), .val (.int (0 : Int32)), .val (.int (0 : Int32)), .val (.int (1 : Int32)), .val (.int ((1 : Int32) - (0 : Int32))), .unset, .unset] [(.int (0 : Int32))])) _
    refine XS.iconst X0.here hx rfl (hb hby d10_6) ?_
    show Steps p.tables e below (s₁.setTop (mkF m 7 #[.val (.ref b), .val (.int (0 : Int32)), .val (.int (0 : Int32)), .val (.int (1 : Int32)), .val (.int ((1 : Int32) - (0 : Int32))), .unset, .unset] [(.int (1 : Int32)), (.int (0 : Int32))])) _
    refine XS.icmpYes X0.here hx rfl (pc0 := 7) (pc' := 68) rfl (hb hby d10_7) rfl (flt (by decide)).2.2.2 (by decide) (by decide) ?_
    show Steps p.tables e below (s₁.setTop (mkF m 68 #[.val (.ref b), .val (.int (0 : Int32)), .val (.int (0 : Int32)), .val (.int (1 : Int32)), .val (.int ((1 : Int32) - (0 : Int32))), .unset, .unset] [])) _
    refine XS.aconstNull X0.here hx rfl (hb hby d10_68) ?_
    show Steps p.tables e below (s₁.setTop (mkF m 69 #[.val (.ref b), .val (.int (0 : Int32)), .val (.int (0 : Int32)), .val (.int (1 : Int32)), .val (.int ((1 : Int32) - (0 : Int32))), .unset, .unset] [.null])) _
    refine XS.aloadN X0.here hx rfl (hb hby d10_69) rfl rfl ?_
    show Steps p.tables e below (s₁.setTop (mkF m 70 #[.val (.ref b), .val (.int (0 : Int32)), .val (.int (0 : Int32)), .val (.int (1 : Int32)), .val (.int ((1 : Int32) - (0 : Int32))), .unset, .unset] [(.ref b), .null])) _
    refine XS.iconst X0.here hx rfl (hb hby d10_70) ?_
    show Steps p.tables e below (s₁.setTop (mkF m 71 #[.val (.ref b), .val (.int (0 : Int32)), .val (.int (0 : Int32)), .val (.int (1 : Int32)), .val (.int ((1 : Int32) - (0 : Int32))), .unset, .unset] [(.int (0 : Int32)), (.ref b), .null])) _
    refine XS.iloadN X0.here hx rfl (hb hby d10_71) rfl ?_
    show Steps p.tables e below (s₁.setTop (mkF m 72 #[.val (.ref b), .val (.int (0 : Int32)), .val (.int (0 : Int32)), .val (.int (1 : Int32)), .val (.int ((1 : Int32) - (0 : Int32))), .unset, .unset] [(.int (0 : Int32)), (.int (0 : Int32)), (.ref b), .null])) _
    refine XS.iloadN X0.here hx rfl (hb hby d10_72) rfl ?_
    show Steps p.tables e below (s₁.setTop (mkF m 73 #[.val (.ref b), .val (.int (0 : Int32)), .val (.int (0 : Int32)), .val (.int (1 : Int32)), .val (.int ((1 : Int32) - (0 : Int32))), .unset, .unset] [(.int (1 : Int32)), (.int (0 : Int32)), (.int (0 : Int32)), (.ref b), .null])) _
    refine st159 _ ?_
    show Steps p.tables e below (T159.setTop (mkF m 76 #[.val (.ref b), .val (.int (0 : Int32)), .val (.int (0 : Int32)), .val (.int (1 : Int32)), .val (.int ((1 : Int32) - (0 : Int32))), .unset, .unset] [])) _
    exact X159.returnOut hx hret0 (hb hby d10_76) hr
  · show QSo1 Z b kb x0 x1 h0 n0 _ T159.heap _
    exact ⟨rfl, N159, K161, V159⟩
theorem own_pn_rmS22 : plainName "java/util/DualPivotQuicksort" = true := by first | (simp [plainName, overriddenIn]; done) | decide +kernel
theorem own_ef_rmS22 (m : MethodId) (b : Addr) : entryFrame m #[(.ref b), (.int (0 : Int32)), (.int (0 : Int32)), (.int (2 : Int32))] 7 = (mkF m 0 #[.val (.ref b), .val (.int (0 : Int32)), .val (.int (0 : Int32)), .val (.int (2 : Int32)), .unset, .unset, .unset] []) := by first | (simp [entryFrame, mkF, argsToLocals, Value.category]; done) | rfl
set_option maxRecDepth 65536 in
set_option maxHeartbeats 40000000 in
theorem rmS22 (l : Launch) (Z : State) (a0 : Array Value) (hw : ∀ d ∈ tables_1, d.before a0 Z = true) (ws : List Jvm.Cond) (b : Addr) (kb : ClassId) (x0 : Int64) (x1 : Int64) (h0 : Heap) (n0 : Nat) (Z0 : n0 ≤ h0.size) (VB : Arv Z h0 b kb .long (2 : Int32) [(.long x0), (.long x1)] (.long (0 : Int64))) (ge1 : n0 ≤ b) :
    MetFree l (⟨"java/util/DualPivotQuicksort", "sort", "([JIII)V"⟩ : MethodName) (head1 (Jvm.Cond.code (⟨"java/util/DualPivotQuicksort", "sort", "([JIII)V"⟩ : MethodName) jdk_2529_method_12_code 7 none :: ws) ({ frames := 2, cells := 0, slots := 0, locals := 58 } : Room)) (fun a U => a = #[(.ref b), (.int (0 : Int32)), (.int (0 : Int32)), (.int (2 : Int32))] ∧ Z.Warmed39 U.vm ∧ U.heap = h0) (fun _ _ _ _ _ => True) (fun _ U o U' => ∃ v L, o = .returned v ∧ QSo2 Z b kb x0 x1 h0 n0 v U'.heap L ∧ FrameEnd U o U' L ({ frames := 2, cells := 0, slots := 0, locals := 58 } : Room).cells ({ frames := 2, cells := 0, slots := 0, locals := 58 } : Room).slots) := by
  refine MetFree.of_bodySF (plainFor_of_name own_pn_rmS22) hisR ?_
  intro p e s m args below meth c s₁ Bd hml0 hP hK
  obtain ⟨hargs, hZ, hh⟩ := hP
  have hx := Bd.exec
  have hby := Bd.bytes
  have hml : c.maxLocals = 7 := hml0
  have hown : s.vm.findClass "java/util/DualPivotQuicksort" = some m.cls := findClass_of_methodNamed Bd.named
  have hnm := (name_of_methodNamed Bd.named Bd.method).1
  have hlock : meth.locks = false := Bd.notSynchronized
  have hret0 := Bd.returns
  have X0 : Stand p l e ({ frames := 2, cells := 0, slots := 0, locals := 58 } : Room) s m args below meth c s₁ [] 0 0 := Stand.of_body Bd
  have e0 : s₁.heap = h0 := by rw [← hh, Bd.state]; rfl
  have N0 := Fr.nil n0
  have pre0 : ∀ t, Steps p.tables e below (s₁.setTop (mkF m 0 #[.val (.ref b), .val (.int (0 : Int32)), .val (.int (0 : Int32)), .val (.int (2 : Int32)), .unset, .unset, .unset] [])) t → Steps p.tables e below (s₁.setTop (entryFrame m args 7)) t := fun t k => castTop (by rw [hargs]; exact own_ef_rmS22 m b) k
  clear Bd
  obtain ⟨v162, vmx162, ⟨T162, L162, k162, n162⟩, -, X162, ⟨Lc162, hQ162, l162, y162, z162⟩, st162⟩ := Jvm.LawKit.callS X0 hx (y := (⟨"java/util/DualPivotQuicksort", "sort", "(Ljava/util/DualPivotQuicksort$Sorter;[JIII)V"⟩ : MethodName)) hown (mvT hZ (hw _ (List.mem_of_getElem? (i := 54) rfl))) (mvT hZ (hw _ (List.mem_of_getElem? (i := 55) rfl))) (mvT hZ (hw _ (List.mem_of_getElem? (i := 52) rfl))) (mvT hZ (hw _ (List.mem_of_getElem? (i := 56) rfl))) (by decide) (backOf (W := 0) (rmS32 l Z a0 hw [] b kb x0 x1 h0 n0 Z0 VB ge1) hZ (hw _ (List.mem_of_getElem? (i := 56) rfl)) (hw _ (List.mem_of_getElem? (i := 52) rfl)) (by decide) (by decide)) (g := (mkF m 73 #[.val (.ref b), .val (.int (0 : Int32)), .val (.int (0 : Int32)), .val (.int (2 : Int32)), .val (.int ((2 : Int32) - (0 : Int32))), .unset, .unset] [(.int (2 : Int32)), (.int (0 : Int32)), (.int (0 : Int32)), (.ref b), .null])) rfl (by rw [hml]; rfl) (argsL := [.null, (.ref b), (.int (0 : Int32)), (.int (0 : Int32)), (.int (2 : Int32))]) (rest := []) (lenOf own_pd3 rfl) rfl (by show 2 * 0 + _ ≤ _; exact Nat.le_of_eq rfl) (hb hby d10_73) (fun _ _ => ⟨rfl, e0, (by decide : 0 + 0 ≤ _), (by decide : 0 + 0 ≤ _)⟩)
  dsimp only [Pt.U, Pt.locs, Pt.cells, Pt.slots] at X162 l162 y162 z162 st162 hQ162
  subst l162 y162 z162
  obtain ⟨rfl, Nq162, K162, V162⟩ := hQ162
  have N162 := Fr.app N0 Nq162
  have Z163 : n0 ≤ T162.heap.size := Nat.le_trans Z0 K162.1
  have K164 : Keep h0 T162.heap [b] := (Keep.refl h0 [b]).trans K162 (allS (Or.inl (List.mem_of_getElem? (i := 0) rfl)) all0)
  obtain ⟨fs, hr, hrun, hended, hW, hsame⟩ := X162.leave (v := none) (fun _ => rfl)
  refine ⟨_, _, pre0 _ ?_, hrun, hended, _, _, rfl, ?_, ⟨_, rfl⟩, hW, hsame.mono (by decide) (by decide)⟩
  · show Steps p.tables e below (s₁.setTop (mkF m 0 #[.val (.ref b), .val (.int (0 : Int32)), .val (.int (0 : Int32)), .val (.int (2 : Int32)), .unset, .unset, .unset] [])) _
    refine XS.iloadN X0.here hx rfl (hb hby d10_0) rfl ?_
    show Steps p.tables e below (s₁.setTop (mkF m 1 #[.val (.ref b), .val (.int (0 : Int32)), .val (.int (0 : Int32)), .val (.int (2 : Int32)), .unset, .unset, .unset] [(.int (2 : Int32))])) _
    refine XS.iloadN X0.here hx rfl (hb hby d10_1) rfl ?_
    show Steps p.tables e below (s₁.setTop (mkF m 2 #[.val (.ref b), .val (.int (0 : Int32)), .val (.int (0 : Int32)), .val (.int (2 : Int32)), .unset, .unset, .unset] [(.int (0 : Int32)), (.int (2 : Int32))])) _
    refine XS.isub X0.here hx rfl (hb hby d10_2) rfl ?_
    show Steps p.tables e below (s₁.setTop (mkF m 3 #[.val (.ref b), .val (.int (0 : Int32)), .val (.int (0 : Int32)), .val (.int (2 : Int32)), .unset, .unset, .unset] [(.int ((2 : Int32) - (0 : Int32)))])) _
    refine XS.istore X0.here hx rfl (hb hby d10_3) rfl (l' := #[.val (.ref b), .val (.int (0 : Int32)), .val (.int (0 : Int32)), .val (.int (2 : Int32)), .val (.int ((2 : Int32) - (0 : Int32))), .unset, .unset]) rfl ?_
    show Steps p.tables e below (s₁.setTop (mkF m 5 #[.val (.ref b), .val (.int (0 : Int32)), .val (.int (0 : Int32)), .val (.int (2 : Int32)), .val (.int ((2 : Int32) - (0 : Int32))), .unset, .unset] [])) _
    refine XS.iloadN X0.here hx rfl (hb hby d10_5) rfl ?_
    show Steps p.tables e below (s₁.setTop (mkF m 6 #[.val (.ref b), .val (.int (0 : Int32)), .val (.int (0 : Int32)), .val (.int (2 : Int32)), .val (.int ((2 : Int32) - (0 : Int32))), .unset, .unset] [(.int (0 : Int32))])) _
    refine XS.iconst X0.here hx rfl (hb hby d10_6) ?_
    show Steps p.tables e below (s₁.setTop (mkF m 7 #[.val (.ref b), .val (.int (0 : Int32)), .val (.int (0 : Int32)), .val (.int (2 : Int32)), .val (.int ((2 : Int32) - (0 : Int32))), .unset, .unset] [(.int (1 : Int32)), (.int (0 : Int32))])) _
    refine XS.icmpYes X0.here hx rfl (pc0 := 7) (pc' := 68) rfl (hb hby d10_7) rfl (flt (by decide)).2.2.2 (by decide) (by decide) ?_
    show Steps p.tables e below (s₁.setTop (mkF m 68 #[.val (.ref b), .val (.int (0 : Int32)), .val (.int (0 : Int32)), .val (.int (2 : Int32)), .val (.int ((2 : Int32) - (0 : Int32))), .unset, .unset] [])) _
    refine XS.aconstNull X0.here hx rfl (hb hby d10_68) ?_
    show Steps p.tables e below (s₁.setTop (mkF m 69 #[.val (.ref b), .val (.int (0 : Int32)), .val (.int (0 : Int32)), .val (.int (2 : Int32)), .val (.int ((2 : Int32) - (0 : Int32))), .unset, .unset] [.null])) _
    refine XS.aloadN X0.here hx rfl (hb hby d10_69) rfl rfl ?_
    show Steps p.tables e below (s₁.setTop (mkF m 70 #[.val (.ref b), .val (.int (0 : Int32)), .val (.int (0 : Int32)), .val (.int (2 : Int32)), .val (.int ((2 : Int32) - (0 : Int32))), .unset, .unset] [(.ref b), .null])) _
    refine XS.iconst X0.here hx rfl (hb hby d10_70) ?_
    show Steps p.tables e below (s₁.setTop (mkF m 71 #[.val (.ref b), .val (.int (0 : Int32)), .val (.int (0 : Int32)), .val (.int (2 : Int32)), .val (.int ((2 : Int32) - (0 : Int32))), .unset, .unset] [(.int (0 : Int32)), (.ref b), .null])) _
    refine XS.iloadN X0.here hx rfl (hb hby d10_71) rfl ?_
    show Steps p.tables e below (s₁.setTop (mkF m 72 #[.val (.ref b), .val (.int (0 : Int32)), .val (.int (0 : Int32)), .val (.int (2 : Int32)), .val (.int ((2 : Int32) - (0 : Int32))), .unset, .unset] [(.int (0 : Int32)), (.int (0 : Int32)), (.ref b), .null])) _
    refine XS.iloadN X0.here hx rfl (hb hby d10_72) rfl ?_
    show Steps p.tables e below (s₁.setTop (mkF m 73 #[.val (.ref b), .val (.int (0 : Int32)), .val (.int (0 : Int32)), .val (.int (2 : Int32)), .val (.int ((2 : Int32) - (0 : Int32))), .unset, .unset] [(.int (2 : Int32)), (.int (0 : Int32)), (.int (0 : Int32)), (.ref b), .null])) _
    refine st162 _ ?_
    show Steps p.tables e below (T162.setTop (mkF m 76 #[.val (.ref b), .val (.int (0 : Int32)), .val (.int (0 : Int32)), .val (.int (2 : Int32)), .val (.int ((2 : Int32) - (0 : Int32))), .unset, .unset] [])) _
    exact X162.returnOut hx hret0 (hb hby d10_76) hr
  · show QSo2 Z b kb x0 x1 h0 n0 _ T162.heap _
    exact ⟨rfl, N162, K164, V162⟩
theorem d9_0 : decode jdk_65_method_4_code 0 = .ok (.aload_n 0, 1) := by decide +kernel
theorem d9_1 : decode jdk_65_method_4_code 1 = .ok (.iconst 0, 1) := by decide +kernel
theorem d9_2 : decode jdk_65_method_4_code 2 = .ok (.iconst 0, 1) := by decide +kernel
theorem d9_3 : decode jdk_65_method_4_code 3 = .ok (.aload_n 0, 1) := by decide +kernel
theorem d9_4 : decode jdk_65_method_4_code 4 = .ok (.arraylength, 1) := by decide +kernel
theorem d9_5 : decode jdk_65_method_4_code 5 = .ok (.invokestatic 19, 3) := by decide +kernel
theorem d9_8 : decode jdk_65_method_4_code 8 = .ok (.return_, 1) := by decide +kernel
theorem own_pn_rmS11 : plainName "java/util/Arrays" = true := by first | (simp [plainName, overriddenIn]; done) | decide +kernel
theorem own_ef_rmS11 (m : MethodId) (b : Addr) : entryFrame m #[(.ref b)] 1 = (mkF m 0 #[.val (.ref b)] []) := by first | (simp [entryFrame, mkF, argsToLocals, Value.category]; done) | rfl
set_option maxRecDepth 65536 in
set_option maxHeartbeats 40000000 in
theorem rmS11 (l : Launch) (Z : State) (a0 : Array Value) (hw : ∀ d ∈ tables_1, d.before a0 Z = true) (ws : List Jvm.Cond) (b : Addr) (kb : ClassId) (x0 : Int64) (x1 : Int64) (h0 : Heap) (n0 : Nat) (Z0 : n0 ≤ h0.size) (VB : Arv Z h0 b kb .long (1 : Int32) [(.long x0)] (.long (0 : Int64))) (ge1 : n0 ≤ b) :
    MetFree l (⟨"java/util/Arrays", "sort", "([J)V"⟩ : MethodName) (head1 (Jvm.Cond.code (⟨"java/util/Arrays", "sort", "([J)V"⟩ : MethodName) jdk_65_method_4_code 1 none :: ws) ({ frames := 3, cells := 0, slots := 0, locals := 78 } : Room)) (fun a U => a = #[(.ref b)] ∧ Z.Warmed39 U.vm ∧ U.heap = h0) (fun _ _ _ _ _ => True) (fun _ U o U' => ∃ v L, o = .returned v ∧ QSo1 Z b kb x0 x1 h0 n0 v U'.heap L ∧ FrameEnd U o U' L ({ frames := 3, cells := 0, slots := 0, locals := 78 } : Room).cells ({ frames := 3, cells := 0, slots := 0, locals := 78 } : Room).slots) := by
  refine MetFree.of_bodySF (plainFor_of_name own_pn_rmS11) hisR ?_
  intro p e s m args below meth c s₁ Bd hml0 hP hK
  obtain ⟨hargs, hZ, hh⟩ := hP
  have hx := Bd.exec
  have hby := Bd.bytes
  have hml : c.maxLocals = 1 := hml0
  have hown : s.vm.findClass "java/util/Arrays" = some m.cls := findClass_of_methodNamed Bd.named
  have hnm := (name_of_methodNamed Bd.named Bd.method).1
  have hlock : meth.locks = false := Bd.notSynchronized
  have hret0 := Bd.returns
  have X0 : Stand p l e ({ frames := 3, cells := 0, slots := 0, locals := 78 } : Room) s m args below meth c s₁ [] 0 0 := Stand.of_body Bd
  have e0 : s₁.heap = h0 := by rw [← hh, Bd.state]; rfl
  have N0 := Fr.nil n0
  have pre0 : ∀ t, Steps p.tables e below (s₁.setTop (mkF m 0 #[.val (.ref b)] [])) t → Steps p.tables e below (s₁.setTop (entryFrame m args 1)) t := fun t k => castTop (by rw [hargs]; exact own_ef_rmS11 m b) k
  clear Bd
  obtain ⟨cl165, Ar165, -, S165, M165, -, -⟩ := id VB
  obtain ⟨v166, vmx166, ⟨T166, L166, k166, n166⟩, -, X166, ⟨Lc166, hQ166, l166, y166, z166⟩, st166⟩ := Jvm.LawKit.callS X0 hx (y := (⟨"java/util/DualPivotQuicksort", "sort", "([JIII)V"⟩ : MethodName)) hown (mvT hZ (hw _ (List.mem_of_getElem? (i := 50) rfl))) (mvT hZ (hw _ (List.mem_of_getElem? (i := 51) rfl))) (mvT hZ (hw _ (List.mem_of_getElem? (i := 52) rfl))) (mvT hZ (hw _ (List.mem_of_getElem? (i := 53) rfl))) (by decide) (backOf (W := 0) (rmS21 l Z a0 hw [] b kb x0 x1 h0 n0 Z0 VB ge1) hZ (hw _ (List.mem_of_getElem? (i := 53) rfl)) (hw _ (List.mem_of_getElem? (i := 52) rfl)) (by decide) (by decide)) (g := (mkF m 5 #[.val (.ref b)] [(.int (1 : Int32)), (.int (0 : Int32)), (.int (0 : Int32)), (.ref b)])) rfl (by rw [hml]; rfl) (argsL := [(.ref b), (.int (0 : Int32)), (.int (0 : Int32)), (.int (1 : Int32))]) (rest := []) (lenOf own_pd4 rfl) rfl (by show 2 * 0 + _ ≤ _; exact Nat.le_of_eq rfl) (hb hby d9_5) (fun _ _ => ⟨rfl, e0, (by decide : 0 + 0 ≤ _), (by decide : 0 + 0 ≤ _)⟩)
  dsimp only [Pt.U, Pt.locs, Pt.cells, Pt.slots] at X166 l166 y166 z166 st166 hQ166
  subst l166 y166 z166
  obtain ⟨rfl, Nq166, K166, V166⟩ := hQ166
  have N166 := Fr.app N0 Nq166
  have Z167 : n0 ≤ T166.heap.size := Nat.le_trans Z0 K166.1
  have K168 : Keep h0 T166.heap [b] := (Keep.refl h0 [b]).trans K166 (allS (Or.inl (List.mem_of_getElem? (i := 0) rfl)) all0)
  obtain ⟨fs, hr, hrun, hended, hW, hsame⟩ := X166.leave (v := none) (fun _ => rfl)
  refine ⟨_, _, pre0 _ ?_, hrun, hended, _, _, rfl, ?_, ⟨_, rfl⟩, hW, hsame.mono (by decide) (by decide)⟩
  · show Steps p.tables e below (s₁.setTop (mkF m 0 #[.val (.ref b)] [])) _
    refine XS.aloadN X0.here hx rfl (hb hby d9_0) rfl rfl ?_
    show Steps p.tables e below (s₁.setTop (mkF m 1 #[.val (.ref b)] [(.ref b)])) _
    refine XS.iconst X0.here hx rfl (hb hby d9_1) ?_
    show Steps p.tables e below (s₁.setTop (mkF m 2 #[.val (.ref b)] [(.int (0 : Int32)), (.ref b)])) _
    refine XS.iconst X0.here hx rfl (hb hby d9_2) ?_
    show Steps p.tables e below (s₁.setTop (mkF m 3 #[.val (.ref b)] [(.int (0 : Int32)), (.int (0 : Int32)), (.ref b)])) _
    refine XS.aloadN X0.here hx rfl (hb hby d9_3) rfl rfl ?_
    show Steps p.tables e below (s₁.setTop (mkF m 4 #[.val (.ref b)] [(.ref b), (.int (0 : Int32)), (.int (0 : Int32)), (.ref b)])) _
    refine X0.arraylength hx (by rw [e0]; exact Ar165.1) (State.isArrayOf_alike hZ.alike Ar165.2.1) (g := (mkF m 4 #[.val (.ref b)] [(.ref b), (.int (0 : Int32)), (.int (0 : Int32)), (.ref b)])) rfl rfl (hb hby d9_4) _ ?_
    rw [len_of S165 M165]
    show Steps p.tables e below (s₁.setTop (mkF m 5 #[.val (.ref b)] [(.int (1 : Int32)), (.int (0 : Int32)), (.int (0 : Int32)), (.ref b)])) _
    refine st166 _ ?_
    show Steps p.tables e below (T166.setTop (mkF m 8 #[.val (.ref b)] [])) _
    exact X166.returnOut hx hret0 (hb hby d9_8) hr
  · show QSo1 Z b kb x0 x1 h0 n0 _ T166.heap _
    exact ⟨rfl, N166, K168, V166⟩
theorem own_pn_rmS12 : plainName "java/util/Arrays" = true := by first | (simp [plainName, overriddenIn]; done) | decide +kernel
theorem own_ef_rmS12 (m : MethodId) (b : Addr) : entryFrame m #[(.ref b)] 1 = (mkF m 0 #[.val (.ref b)] []) := by first | (simp [entryFrame, mkF, argsToLocals, Value.category]; done) | rfl
set_option maxRecDepth 65536 in
set_option maxHeartbeats 40000000 in
theorem rmS12 (l : Launch) (Z : State) (a0 : Array Value) (hw : ∀ d ∈ tables_1, d.before a0 Z = true) (ws : List Jvm.Cond) (b : Addr) (kb : ClassId) (x0 : Int64) (x1 : Int64) (h0 : Heap) (n0 : Nat) (Z0 : n0 ≤ h0.size) (VB : Arv Z h0 b kb .long (2 : Int32) [(.long x0), (.long x1)] (.long (0 : Int64))) (ge1 : n0 ≤ b) :
    MetFree l (⟨"java/util/Arrays", "sort", "([J)V"⟩ : MethodName) (head1 (Jvm.Cond.code (⟨"java/util/Arrays", "sort", "([J)V"⟩ : MethodName) jdk_65_method_4_code 1 none :: ws) ({ frames := 3, cells := 0, slots := 0, locals := 78 } : Room)) (fun a U => a = #[(.ref b)] ∧ Z.Warmed39 U.vm ∧ U.heap = h0) (fun _ _ _ _ _ => True) (fun _ U o U' => ∃ v L, o = .returned v ∧ QSo2 Z b kb x0 x1 h0 n0 v U'.heap L ∧ FrameEnd U o U' L ({ frames := 3, cells := 0, slots := 0, locals := 78 } : Room).cells ({ frames := 3, cells := 0, slots := 0, locals := 78 } : Room).slots) := by
  refine MetFree.of_bodySF (plainFor_of_name own_pn_rmS12) hisR ?_
  intro p e s m args below meth c s₁ Bd hml0 hP hK
  obtain ⟨hargs, hZ, hh⟩ := hP
  have hx := Bd.exec
  have hby := Bd.bytes
  have hml : c.maxLocals = 1 := hml0
  have hown : s.vm.findClass "java/util/Arrays" = some m.cls := findClass_of_methodNamed Bd.named
  have hnm := (name_of_methodNamed Bd.named Bd.method).1
  have hlock : meth.locks = false := Bd.notSynchronized
  have hret0 := Bd.returns
  have X0 : Stand p l e ({ frames := 3, cells := 0, slots := 0, locals := 78 } : Room) s m args below meth c s₁ [] 0 0 := Stand.of_body Bd
  have e0 : s₁.heap = h0 := by rw [← hh, Bd.state]; rfl
  have N0 := Fr.nil n0
  have pre0 : ∀ t, Steps p.tables e below (s₁.setTop (mkF m 0 #[.val (.ref b)] [])) t → Steps p.tables e below (s₁.setTop (entryFrame m args 1)) t := fun t k => castTop (by rw [hargs]; exact own_ef_rmS12 m b) k
  clear Bd
  obtain ⟨cl169, Ar169, -, S169, M169, -, -⟩ := id VB
  obtain ⟨v170, vmx170, ⟨T170, L170, k170, n170⟩, -, X170, ⟨Lc170, hQ170, l170, y170, z170⟩, st170⟩ := Jvm.LawKit.callS X0 hx (y := (⟨"java/util/DualPivotQuicksort", "sort", "([JIII)V"⟩ : MethodName)) hown (mvT hZ (hw _ (List.mem_of_getElem? (i := 50) rfl))) (mvT hZ (hw _ (List.mem_of_getElem? (i := 51) rfl))) (mvT hZ (hw _ (List.mem_of_getElem? (i := 52) rfl))) (mvT hZ (hw _ (List.mem_of_getElem? (i := 53) rfl))) (by decide) (backOf (W := 0) (rmS22 l Z a0 hw [] b kb x0 x1 h0 n0 Z0 VB ge1) hZ (hw _ (List.mem_of_getElem? (i := 53) rfl)) (hw _ (List.mem_of_getElem? (i := 52) rfl)) (by decide) (by decide)) (g := (mkF m 5 #[.val (.ref b)] [(.int (2 : Int32)), (.int (0 : Int32)), (.int (0 : Int32)), (.ref b)])) rfl (by rw [hml]; rfl) (argsL := [(.ref b), (.int (0 : Int32)), (.int (0 : Int32)), (.int (2 : Int32))]) (rest := []) (lenOf own_pd4 rfl) rfl (by show 2 * 0 + _ ≤ _; exact Nat.le_of_eq rfl) (hb hby d9_5) (fun _ _ => ⟨rfl, e0, (by decide : 0 + 0 ≤ _), (by decide : 0 + 0 ≤ _)⟩)
  dsimp only [Pt.U, Pt.locs, Pt.cells, Pt.slots] at X170 l170 y170 z170 st170 hQ170
  subst l170 y170 z170
  obtain ⟨rfl, Nq170, K170, V170⟩ := hQ170
  have N170 := Fr.app N0 Nq170
  have Z171 : n0 ≤ T170.heap.size := Nat.le_trans Z0 K170.1
  have K172 : Keep h0 T170.heap [b] := (Keep.refl h0 [b]).trans K170 (allS (Or.inl (List.mem_of_getElem? (i := 0) rfl)) all0)
  obtain ⟨fs, hr, hrun, hended, hW, hsame⟩ := X170.leave (v := none) (fun _ => rfl)
  refine ⟨_, _, pre0 _ ?_, hrun, hended, _, _, rfl, ?_, ⟨_, rfl⟩, hW, hsame.mono (by decide) (by decide)⟩
  · show Steps p.tables e below (s₁.setTop (mkF m 0 #[.val (.ref b)] [])) _
    refine XS.aloadN X0.here hx rfl (hb hby d9_0) rfl rfl ?_
    show Steps p.tables e below (s₁.setTop (mkF m 1 #[.val (.ref b)] [(.ref b)])) _
    refine XS.iconst X0.here hx rfl (hb hby d9_1) ?_
    show Steps p.tables e below (s₁.setTop (mkF m 2 #[.val (.ref b)] [(.int (0 : Int32)), (.ref b)])) _
    refine XS.iconst X0.here hx rfl (hb hby d9_2) ?_
    show Steps p.tables e below (s₁.setTop (mkF m 3 #[.val (.ref b)] [(.int (0 : Int32)), (.int (0 : Int32)), (.ref b)])) _
    refine XS.aloadN X0.here hx rfl (hb hby d9_3) rfl rfl ?_
    show Steps p.tables e below (s₁.setTop (mkF m 4 #[.val (.ref b)] [(.ref b), (.int (0 : Int32)), (.int (0 : Int32)), (.ref b)])) _
    refine X0.arraylength hx (by rw [e0]; exact Ar169.1) (State.isArrayOf_alike hZ.alike Ar169.2.1) (g := (mkF m 4 #[.val (.ref b)] [(.ref b), (.int (0 : Int32)), (.int (0 : Int32)), (.ref b)])) rfl rfl (hb hby d9_4) _ ?_
    rw [len_of S169 M169]
    show Steps p.tables e below (s₁.setTop (mkF m 5 #[.val (.ref b)] [(.int (2 : Int32)), (.int (0 : Int32)), (.int (0 : Int32)), (.ref b)])) _
    refine st170 _ ?_
    show Steps p.tables e below (T170.setTop (mkF m 8 #[.val (.ref b)] [])) _
    exact X170.returnOut hx hret0 (hb hby d9_8) hr
  · show QSo2 Z b kb x0 x1 h0 n0 _ T170.heap _
    exact ⟨rfl, N170, K172, V170⟩
theorem d14_0 : decode jdk_2799_method_9_code 0 = .ok (.aload_n 0, 1) := by decide +kernel
theorem d14_1 : decode jdk_2799_method_9_code 1 = .ok (.getfield 44, 3) := by decide +kernel
theorem d14_4 : decode jdk_2799_method_9_code 4 = .ok (.dup2, 1) := by decide +kernel
theorem d14_5 : decode jdk_2799_method_9_code 5 = .ok (.lstore_n 3, 1) := by decide +kernel
theorem d14_6 : decode jdk_2799_method_9_code 6 = .ok (.ldc2_w 63, 3) := by decide +kernel
theorem d14_9 : decode jdk_2799_method_9_code 9 = .ok (.lcmp, 1) := by decide +kernel
theorem d14_10 : decode jdk_2799_method_9_code 10 = .ok (.ifCond .gt 23, 3) := by decide +kernel
theorem d14_13 : decode jdk_2799_method_9_code 13 = .ok (.lload_n 3, 1) := by decide +kernel
theorem d14_14 : decode jdk_2799_method_9_code 14 = .ok (.ldc2_w 63, 3) := by decide +kernel
theorem d14_17 : decode jdk_2799_method_9_code 17 = .ok (.lcmp, 1) := by decide +kernel
theorem d14_18 : decode jdk_2799_method_9_code 18 = .ok (.ifCond .ne 7, 3) := by decide +kernel
theorem d14_25 : decode jdk_2799_method_9_code 25 = .ok (.lload_n 1, 1) := by decide +kernel
theorem d14_26 : decode jdk_2799_method_9_code 26 = .ok (.aload_n 0, 1) := by decide +kernel
theorem d14_27 : decode jdk_2799_method_9_code 27 = .ok (.getfield 65, 3) := by decide +kernel
theorem d14_30 : decode jdk_2799_method_9_code 30 = .ok (.i2l, 1) := by decide +kernel
theorem d14_31 : decode jdk_2799_method_9_code 31 = .ok (.ldiv, 1) := by decide +kernel
theorem d14_32 : decode jdk_2799_method_9_code 32 = .ok (.lreturn, 1) := by decide +kernel
def QTm (q1 : Int64) (h0 : Heap) (n0 : Nat) (v : Option Value) (h : Heap) (L : List Loc) : Prop := v = some (.long (q1 / (1000000 : Int64))) ∧ Fr n0 L ∧ h = h0
theorem own_pn_rmTm : plainName "java/util/concurrent/TimeUnit" = true := by first | (simp [plainName, overriddenIn]; done) | decide +kernel
theorem own_ef_rmTm (m : MethodId) (a1 : Addr) (q1 : Int64) : entryFrame m #[(.ref a1), (.long q1)] 7 = (mkF m 0 #[.val (.ref a1), .val (.long q1), .second, .unset, .unset, .unset, .unset] []) := by first | (simp [entryFrame, mkF, argsToLocals, Value.category]; done) | rfl
set_option maxRecDepth 65536 in
set_option maxHeartbeats 40000000 in
theorem rmTm (l : Launch) (Z : State) (a0 : Array Value) (hw : ∀ d ∈ tables_1, d.before a0 Z = true) (ws : List Jvm.Cond) (a1 : Addr) (q1 : Int64) (h0 : Heap) (n0 : Nat) (Z0 : n0 ≤ h0.size) (F1 : Fld Z h0 a1 "java/util/concurrent/TimeUnit" "scale" "J" (.long (1 : Int64))) (F2 : Fld Z h0 a1 "java/util/concurrent/TimeUnit" "milliRatio" "I" (.int (1000000 : Int32))) :
    MetFree l (⟨"java/util/concurrent/TimeUnit", "toMillis", "(J)J"⟩ : MethodName) (head1 (Jvm.Cond.code (⟨"java/util/concurrent/TimeUnit", "toMillis", "(J)J"⟩ : MethodName) jdk_2799_method_9_code 7 (some .long) :: ws) ({ frames := 0, cells := 0, slots := 0, locals := 0 } : Room)) (fun a U => a = #[(.ref a1), (.long q1)] ∧ Z.Warmed39 U.vm ∧ U.heap = h0) (fun _ _ _ _ _ => True) (fun _ U o U' => ∃ v L, o = .returned v ∧ QTm q1 h0 n0 v U'.heap L ∧ FrameEnd U o U' L ({ frames := 0, cells := 0, slots := 0, locals := 0 } : Room).cells ({ frames := 0, cells := 0, slots := 0, locals := 0 } : Room).slots) := by
  refine MetFree.of_bodySF (plainFor_of_name own_pn_rmTm) hisR ?_
  intro p e s m args below meth c s₁ Bd hml0 hP hK
  obtain ⟨hargs, hZ, hh⟩ := hP
  have hx := Bd.exec
  have hby := Bd.bytes
  have hml : c.maxLocals = 7 := hml0
  have hown : s.vm.findClass "java/util/concurrent/TimeUnit" = some m.cls := findClass_of_methodNamed Bd.named
  have hnm := (name_of_methodNamed Bd.named Bd.method).1
  have hlock : meth.locks = false := Bd.notSynchronized
  have hret0 := Bd.returns
  have X0 : Stand p l e ({ frames := 0, cells := 0, slots := 0, locals := 0 } : Room) s m args below meth c s₁ [] 0 0 := Stand.of_body Bd
  have e0 : s₁.heap = h0 := by rw [← hh, Bd.state]; rfl
  have N0 := Fr.nil n0
  have pre0 : ∀ t, Steps p.tables e below (s₁.setTop (mkF m 0 #[.val (.ref a1), .val (.long q1), .second, .unset, .unset, .unset, .unset] [])) t → Steps p.tables e below (s₁.setTop (entryFrame m args 7)) t := fun t k => castTop (by rw [hargs]; exact own_ef_rmTm m a1 q1) k
  clear Bd
  obtain ⟨T173, X173, e173, st173⟩ := getF X0 hx hZ hown (host := "") (Or.inl (hw _ (List.mem_of_getElem? (i := 73) rfl))) Via.refl e0 F1 (g := (mkF m 1 #[.val (.ref a1), .val (.long q1), .second, .unset, .unset, .unset, .unset] [(.ref a1)])) rfl rfl (hb hby d14_1)
  obtain ⟨T174, X174, e174, st174⟩ := getF X173 hx hZ hown (host := "") (Or.inl (hw _ (List.mem_of_getElem? (i := 76) rfl))) Via.refl e173 F2 (g := (mkF m 27 #[.val (.ref a1), .val (.long q1), .second, .val (.long (1 : Int64)), .second, .unset, .unset] [(.ref a1), (.long q1)])) rfl rfl (hb hby d14_27)
  obtain ⟨fs, hr, hrun, hended, hW, hsame⟩ := X174.leave (v := some (.long (q1 / ((1000000 : Int32).toInt64)))) (fun h => by rw [hret0] at h; cases h)
  refine ⟨_, _, pre0 _ ?_, hrun, hended, _, _, rfl, ?_, ⟨_, rfl⟩, hW, hsame.mono (by decide) (by decide)⟩
  · show Steps p.tables e below (s₁.setTop (mkF m 0 #[.val (.ref a1), .val (.long q1), .second, .unset, .unset, .unset, .unset] [])) _
    refine XS.aloadN X0.here hx rfl (hb hby d14_0) rfl rfl ?_
    show Steps p.tables e below (s₁.setTop (mkF m 1 #[.val (.ref a1), .val (.long q1), .second, .unset, .unset, .unset, .unset] [(.ref a1)])) _
    refine st173 _ ?_
    show Steps p.tables e below (T173.setTop (mkF m 4 #[.val (.ref a1), .val (.long q1), .second, .unset, .unset, .unset, .unset] [(.long (1 : Int64))])) _
    jvm_step X173.here [X173.here.top, hx, (hb hby d14_4), Value.category]
    show Steps p.tables e below (T173.setTop (mkF m 5 #[.val (.ref a1), .val (.long q1), .second, .unset, .unset, .unset, .unset] [(.long (1 : Int64)), (.long (1 : Int64))])) _
    refine XS.lstoreN X173.here hx rfl (hb hby d14_5) rfl (l' := #[.val (.ref a1), .val (.long q1), .second, .val (.long (1 : Int64)), .second, .unset, .unset]) rfl ?_
    show Steps p.tables e below (T173.setTop (mkF m 6 #[.val (.ref a1), .val (.long q1), .second, .val (.long (1 : Int64)), .second, .unset, .unset] [(.long (1 : Int64))])) _
    refine X173.ldc2Long hx hown (mvT hZ (hw _ (List.mem_of_getElem? (i := 75) rfl))) (g := (mkF m 6 #[.val (.ref a1), .val (.long q1), .second, .val (.long (1 : Int64)), .second, .unset, .unset] [(.long (1 : Int64))])) rfl (hb hby d14_6) _ ?_
    show Steps p.tables e below (T173.setTop (mkF m 9 #[.val (.ref a1), .val (.long q1), .second, .val (.long (1 : Int64)), .second, .unset, .unset] [(.long (1000000 : Int64)), (.long (1 : Int64))])) _
    refine XS.lcmp X173.here hx rfl (hb hby d14_9) rfl ?_
    show Steps p.tables e below (T173.setTop (mkF m 10 #[.val (.ref a1), .val (.long q1), .second, .val (.long (1 : Int64)), .second, .unset, .unset] [(.int (lcmpW (1 : Int64) (1000000 : Int64)))])) _
    refine XS.ifNo X173.here hx rfl (hb hby d14_10) rfl ((if0 _ _).trans (flt (by decide)).2.2.1) ?_
    show Steps p.tables e below (T173.setTop (mkF m 13 #[.val (.ref a1), .val (.long q1), .second, .val (.long (1 : Int64)), .second, .unset, .unset] [])) _
    refine XS.lloadN X173.here hx rfl (hb hby d14_13) rfl ?_
    show Steps p.tables e below (T173.setTop (mkF m 14 #[.val (.ref a1), .val (.long q1), .second, .val (.long (1 : Int64)), .second, .unset, .unset] [(.long (1 : Int64))])) _
    refine X173.ldc2Long hx hown (mvT hZ (hw _ (List.mem_of_getElem? (i := 75) rfl))) (g := (mkF m 14 #[.val (.ref a1), .val (.long q1), .second, .val (.long (1 : Int64)), .second, .unset, .unset] [(.long (1 : Int64))])) rfl (hb hby d14_14) _ ?_
    show Steps p.tables e below (T173.setTop (mkF m 17 #[.val (.ref a1), .val (.long q1), .second, .val (.long (1 : Int64)), .second, .unset, .unset] [(.long (1000000 : Int64)), (.long (1 : Int64))])) _
    refine XS.lcmp X173.here hx rfl (hb hby d14_17) rfl ?_
    show Steps p.tables e below (T173.setTop (mkF m 18 #[.val (.ref a1), .val (.long q1), .second, .val (.long (1 : Int64)), .second, .unset, .unset] [(.int (lcmpW (1 : Int64) (1000000 : Int64)))])) _
    refine XS.ifYes X173.here hx rfl (pc0 := 18) (pc' := 25) rfl (hb hby d14_18) rfl ((if0 _ _).trans (feq (by decide)).2) (by decide) (by decide) ?_
    show Steps p.tables e below (T173.setTop (mkF m 25 #[.val (.ref a1), .val (.long q1), .second, .val (.long (1 : Int64)), .second, .unset, .unset] [])) _
    refine XS.lloadN X173.here hx rfl (hb hby d14_25) rfl ?_
    show Steps p.tables e below (T173.setTop (mkF m 26 #[.val (.ref a1), .val (.long q1), .second, .val (.long (1 : Int64)), .second, .unset, .unset] [(.long q1)])) _
    refine XS.aloadN X173.here hx rfl (hb hby d14_26) rfl rfl ?_
    show Steps p.tables e below (T173.setTop (mkF m 27 #[.val (.ref a1), .val (.long q1), .second, .val (.long (1 : Int64)), .second, .unset, .unset] [(.ref a1), (.long q1)])) _
    refine st174 _ ?_
    show Steps p.tables e below (T174.setTop (mkF m 30 #[.val (.ref a1), .val (.long q1), .second, .val (.long (1 : Int64)), .second, .unset, .unset] [(.int (1000000 : Int32)), (.long q1)])) _
    refine XS.i2l X174.here hx rfl (hb hby d14_30) rfl ?_
    show Steps p.tables e below (T174.setTop (mkF m 31 #[.val (.ref a1), .val (.long q1), .second, .val (.long (1 : Int64)), .second, .unset, .unset] [(.long ((1000000 : Int32).toInt64)), (.long q1)])) _
    refine XS.ldiv X174.here hx rfl (hb hby d14_31) rfl (by decide) ?_
    show Steps p.tables e below (T174.setTop (mkF m 32 #[.val (.ref a1), .val (.long q1), .second, .val (.long (1 : Int64)), .second, .unset, .unset] [(.long (q1 / ((1000000 : Int32).toInt64)))])) _
    exact retJ X174 hx hret0 (hb hby d14_32) hr
  · show QTm q1 h0 n0 _ T174.heap _
    rw [e174]
    exact ⟨by rw [show (1000000 : Int32).toInt64 = (1000000 : Int64) by decide], N0, rfl⟩
def QPm (x : Int64) (h0 : Heap) (n0 : Nat) (v : Option Value) (h : Heap) (L : List Loc) : Prop := v = some (.long (x / (1000000 : Int64))) ∧ Fr n0 L ∧ h = h0
theorem d13_0 : decode prog_1_method_6_code 0 = .ok (.iload_n 1, 1) := by decide +kernel
theorem d13_1 : decode prog_1_method_6_code 1 = .ok (.aload_n 0, 1) := by decide +kernel
theorem d13_2 : decode prog_1_method_6_code 2 = .ok (.arraylength, 1) := by decide +kernel
theorem d13_3 : decode prog_1_method_6_code 3 = .ok (.imul, 1) := by decide +kernel
theorem d13_4 : decode prog_1_method_6_code 4 = .ok (.bipush 99, 2) := by decide +kernel
theorem d13_6 : decode prog_1_method_6_code 6 = .ok (.iadd, 1) := by decide +kernel
theorem d13_7 : decode prog_1_method_6_code 7 = .ok (.bipush 100, 2) := by decide +kernel
theorem d13_9 : decode prog_1_method_6_code 9 = .ok (.idiv, 1) := by decide +kernel
theorem d13_10 : decode prog_1_method_6_code 10 = .ok (.istore_n 2, 1) := by decide +kernel
theorem d13_11 : decode prog_1_method_6_code 11 = .ok (.getstatic 62, 3) := by decide +kernel
theorem d13_14 : decode prog_1_method_6_code 14 = .ok (.aload_n 0, 1) := by decide +kernel
theorem d13_15 : decode prog_1_method_6_code 15 = .ok (.iload_n 2, 1) := by decide +kernel
theorem d13_16 : decode prog_1_method_6_code 16 = .ok (.iconst 1, 1) := by decide +kernel
theorem d13_17 : decode prog_1_method_6_code 17 = .ok (.isub, 1) := by decide +kernel
theorem d13_18 : decode prog_1_method_6_code 18 = .ok (.laload, 1) := by decide +kernel
theorem d13_19 : decode prog_1_method_6_code 19 = .ok (.invokevirtual 68, 3) := by decide +kernel
theorem d13_22 : decode prog_1_method_6_code 22 = .ok (.lreturn, 1) := by decide +kernel
theorem own_pn_rmPm1_50 : plainName "com/example/nosy_pool/nosypool/CheckoutHistory" = true := by first | (simp [plainName, overriddenIn]; done) | decide +kernel
theorem own_ef_rmPm1_50 (m : MethodId) (b : Addr) : entryFrame m #[(.ref b), (.int (50 : Int32))] 3 = (mkF m 0 #[.val (.ref b), .val (.int (50 : Int32)), .unset] []) := by first | (simp [entryFrame, mkF, argsToLocals, Value.category]; done) | rfl
set_option maxRecDepth 65536 in
set_option maxHeartbeats 40000000 in
theorem rmPm1_50 (l : Launch) (Z : State) (a0 : Array Value) (hw : ∀ d ∈ tables_1, d.before a0 Z = true) (ws : List Jvm.Cond) (b : Addr) (kb : ClassId) (x0 : Int64) (x1 : Int64) (tu : Addr) (h0 : Heap) (n0 : Nat) (Z0 : n0 ≤ h0.size) (VB : Arv Z h0 b kb .long (1 : Int32) [(.long x0)] (.long (0 : Int64))) (O6 : Sta Z Z.heap "java/util/concurrent/TimeUnit" "NANOSECONDS" "Ljava/util/concurrent/TimeUnit;" (.ref tu)) (ET : Exa Z Z.heap tu "java/util/concurrent/TimeUnit") (FT1 : Fld Z Z.heap tu "java/util/concurrent/TimeUnit" "scale" "J" (.long (1 : Int64))) (FT2 : Fld Z Z.heap tu "java/util/concurrent/TimeUnit" "milliRatio" "I" (.int (1000000 : Int32))) (X00 : Old Z n0 h0) :
    MetFree l (⟨"com/example/nosy_pool/nosypool/CheckoutHistory", "percentileMs", "([JI)J"⟩ : MethodName) (head1 (Jvm.Cond.code (⟨"com/example/nosy_pool/nosypool/CheckoutHistory", "percentileMs", "([JI)J"⟩ : MethodName) prog_1_method_6_code 3 (some .long) :: ws) ({ frames := 1, cells := 0, slots := 0, locals := 20 } : Room)) (fun a U => a = #[(.ref b), (.int (50 : Int32))] ∧ Z.Warmed39 U.vm ∧ U.heap = h0) (fun _ _ _ _ _ => True) (fun _ U o U' => ∃ v L, o = .returned v ∧ QPm x0 h0 n0 v U'.heap L ∧ FrameEnd U o U' L ({ frames := 1, cells := 0, slots := 0, locals := 20 } : Room).cells ({ frames := 1, cells := 0, slots := 0, locals := 20 } : Room).slots) := by
  refine MetFree.of_bodySF (plainFor_of_name own_pn_rmPm1_50) hisR ?_
  intro p e s m args below meth c s₁ Bd hml0 hP hK
  obtain ⟨hargs, hZ, hh⟩ := hP
  have hx := Bd.exec
  have hby := Bd.bytes
  have hml : c.maxLocals = 3 := hml0
  have hown : s.vm.findClass "com/example/nosy_pool/nosypool/CheckoutHistory" = some m.cls := findClass_of_methodNamed Bd.named
  have hnm := (name_of_methodNamed Bd.named Bd.method).1
  have hlock : meth.locks = false := Bd.notSynchronized
  have hret0 := Bd.returns
  have X0 : Stand p l e ({ frames := 1, cells := 0, slots := 0, locals := 20 } : Room) s m args below meth c s₁ [] 0 0 := Stand.of_body Bd
  have e0 : s₁.heap = h0 := by rw [← hh, Bd.state]; rfl
  have N0 := Fr.nil n0
  have pre0 : ∀ t, Steps p.tables e below (s₁.setTop (mkF m 0 #[.val (.ref b), .val (.int (50 : Int32)), .unset] [])) t → Steps p.tables e below (s₁.setTop (entryFrame m args 3)) t := fun t k => castTop (by rw [hargs]; exact own_ef_rmPm1_50 m b) k
  clear Bd
  obtain ⟨cl175, Ar175, -, S175, M175, -, -⟩ := id VB
  obtain ⟨T176, X176, e176, st176⟩ := getS2 X0 hx hZ hown (host := "") (Or.inl (hw _ (List.mem_of_getElem? (i := 66) rfl))) Via.refl e0 (O6.ext X00.2) (g := (mkF m 11 #[.val (.ref b), .val (.int (50 : Int32)), .val (.int ((((50 : Int32) * (1 : Int32)) + (99 : Int32)) / (100 : Int32)))] [])) rfl (hb hby d13_11)
  obtain ⟨cl177, Ar177, -, S177, M177, Hs177, -⟩ := id VB
  have hin177 := inb_of S177 (j := (((((50 : Int32) * (1 : Int32)) + (99 : Int32)) / (100 : Int32)) - (1 : Int32))) ⟨(by decide), (by decide)⟩
  have hat177 : cl177.slots[((((((50 : Int32) * (1 : Int32)) + (99 : Int32)) / (100 : Int32)) - (1 : Int32))).toNatClampNeg]? = some (.long x0) := Has.at Hs177 hin177 rfl
  obtain ⟨cq178, kq178, q178a, q178b, q178c⟩ := isOf hZ e176 (ET.ext X00.2)
  obtain ⟨v178, vmx178, ⟨T178, L178, k178, n178⟩, -, X178, ⟨Lc178, hQ178, l178, y178, z178⟩, st178⟩ := X176.virtualBack hx (y := (⟨"java/util/concurrent/TimeUnit", "toMillis", "(J)J"⟩ : MethodName)) (z := (⟨"java/util/concurrent/TimeUnit", "toMillis", "(J)J"⟩ : MethodName)) hown (mvT hZ (hw _ (List.mem_of_getElem? (i := 68) rfl))) (mvT hZ (hw _ (List.mem_of_getElem? (i := 69) rfl))) (notFace_of_selects (args := #[]) (mvT hZ (hw _ (List.mem_of_getElem? (i := 71) rfl)))) (mvT hZ (hw _ (List.mem_of_getElem? (i := 71) rfl))) (mvT hZ (hw _ (List.mem_of_getElem? (i := 70) rfl))) (by decide) (backOf (W := 0) (rmTm l Z a0 hw [] tu x0 h0 n0 Z0 (FT1.ext X00.2) (FT2.ext X00.2)) hZ (hw _ (List.mem_of_getElem? (i := 72) rfl)) (hw _ (List.mem_of_getElem? (i := 67) rfl)) (by decide) (by decide)) q178a q178c (g := (mkF m 19 #[.val (.ref b), .val (.int (50 : Int32)), .val (.int ((((50 : Int32) * (1 : Int32)) + (99 : Int32)) / (100 : Int32)))] [(.long x0), (.ref tu)])) rfl (by rw [hml]; rfl) (Steps.refl _) (argsL := [(.long x0)]) (rest := []) (lenOf own_pd5 rfl) rfl (by show 2 * 0 + _ ≤ _; exact Nat.le_of_eq rfl) (hb hby d13_19) (fun _ _ => ⟨rfl, e176, (by decide : 0 + 0 ≤ _), (by decide : 0 + 0 ≤ _)⟩)
  dsimp only [Pt.U, Pt.locs, Pt.cells, Pt.slots] at X178 l178 y178 z178 st178 hQ178
  subst l178 y178 z178
  obtain ⟨rfl, Nq178, eh178⟩ := hQ178
  have N178 := Fr.app N0 Nq178
  obtain ⟨fs, hr, hrun, hended, hW, hsame⟩ := X178.leave (v := some (.long (x0 / (1000000 : Int64)))) (fun h => by rw [hret0] at h; cases h)
  refine ⟨_, _, pre0 _ ?_, hrun, hended, _, _, rfl, ?_, ⟨_, rfl⟩, hW, hsame.mono (by decide) (by decide)⟩
  · show Steps p.tables e below (s₁.setTop (mkF m 0 #[.val (.ref b), .val (.int (50 : Int32)), .unset] [])) _
    refine XS.iloadN X0.here hx rfl (hb hby d13_0) rfl ?_
    show Steps p.tables e below (s₁.setTop (mkF m 1 #[.val (.ref b), .val (.int (50 : Int32)), .unset] [(.int (50 : Int32))])) _
    refine XS.aloadN X0.here hx rfl (hb hby d13_1) rfl rfl ?_
    show Steps p.tables e below (s₁.setTop (mkF m 2 #[.val (.ref b), .val (.int (50 : Int32)), .unset] [(.ref b), (.int (50 : Int32))])) _
    refine X0.arraylength hx (by rw [e0]; exact Ar175.1) (State.isArrayOf_alike hZ.alike Ar175.2.1) (g := (mkF m 2 #[.val (.ref b), .val (.int (50 : Int32)), .unset] [(.ref b), (.int (50 : Int32))])) rfl rfl (hb hby d13_2) _ ?_
    rw [len_of S175 M175]
    show Steps p.tables e below (s₁.setTop (mkF m 3 #[.val (.ref b), .val (.int (50 : Int32)), .unset] [(.int (1 : Int32)), (.int (50 : Int32))])) _
    refine XS.imul X0.here hx rfl (hb hby d13_3) rfl ?_
    show Steps p.tables e below (s₁.setTop (mkF m 4 #[.val (.ref b), .val (.int (50 : Int32)), .unset] [(.int ((50 : Int32) * (1 : Int32)))])) _
    refine XS.bipush X0.here hx rfl (hb hby d13_4) ?_
    show Steps p.tables e below (s₁.setTop (mkF m 6 #[.val (.ref b), .val (.int (50 : Int32)), .unset] [(.int (99 : Int32)), (.int ((50 : Int32) * (1 : Int32)))])) _
    refine XS.iadd X0.here hx rfl (hb hby d13_6) rfl ?_
    show Steps p.tables e below (s₁.setTop (mkF m 7 #[.val (.ref b), .val (.int (50 : Int32)), .unset] [(.int (((50 : Int32) * (1 : Int32)) + (99 : Int32)))])) _
    refine XS.bipush X0.here hx rfl (hb hby d13_7) ?_
    show Steps p.tables e below (s₁.setTop (mkF m 9 #[.val (.ref b), .val (.int (50 : Int32)), .unset] [(.int (100 : Int32)), (.int (((50 : Int32) * (1 : Int32)) + (99 : Int32)))])) _
    refine XS.idiv X0.here hx rfl (hb hby d13_9) rfl (by decide) ?_
    show Steps p.tables e below (s₁.setTop (mkF m 10 #[.val (.ref b), .val (.int (50 : Int32)), .unset] [(.int ((((50 : Int32) * (1 : Int32)) + (99 : Int32)) / (100 : Int32)))])) _
    refine XS.istoreN X0.here hx rfl (hb hby d13_10) rfl (l' := #[.val (.ref b), .val (.int (50 : Int32)), .val (.int ((((50 : Int32) * (1 : Int32)) + (99 : Int32)) / (100 : Int32)))]) rfl ?_
    show Steps p.tables e below (s₁.setTop (mkF m 11 #[.val (.ref b), .val (.int (50 : Int32)), .val (.int ((((50 : Int32) * (1 : Int32)) + (99 : Int32)) / (100 : Int32)))] [])) _
    refine st176 _ ?_
    show Steps p.tables e below (T176.setTop (mkF m 14 #[.val (.ref b), .val (.int (50 : Int32)), .val (.int ((((50 : Int32) * (1 : Int32)) + (99 : Int32)) / (100 : Int32)))] [(.ref tu)])) _
    refine XS.aloadN X176.here hx rfl (hb hby d13_14) rfl rfl ?_
    show Steps p.tables e below (T176.setTop (mkF m 15 #[.val (.ref b), .val (.int (50 : Int32)), .val (.int ((((50 : Int32) * (1 : Int32)) + (99 : Int32)) / (100 : Int32)))] [(.ref b), (.ref tu)])) _
    refine XS.iloadN X176.here hx rfl (hb hby d13_15) rfl ?_
    show Steps p.tables e below (T176.setTop (mkF m 16 #[.val (.ref b), .val (.int (50 : Int32)), .val (.int ((((50 : Int32) * (1 : Int32)) + (99 : Int32)) / (100 : Int32)))] [(.int ((((50 : Int32) * (1 : Int32)) + (99 : Int32)) / (100 : Int32))), (.ref b), (.ref tu)])) _
    refine XS.iconst X176.here hx rfl (hb hby d13_16) ?_
    show Steps p.tables e below (T176.setTop (mkF m 17 #[.val (.ref b), .val (.int (50 : Int32)), .val (.int ((((50 : Int32) * (1 : Int32)) + (99 : Int32)) / (100 : Int32)))] [(.int (1 : Int32)), (.int ((((50 : Int32) * (1 : Int32)) + (99 : Int32)) / (100 : Int32))), (.ref b), (.ref tu)])) _
    refine XS.isub X176.here hx rfl (hb hby d13_17) rfl ?_
    show Steps p.tables e below (T176.setTop (mkF m 18 #[.val (.ref b), .val (.int (50 : Int32)), .val (.int ((((50 : Int32) * (1 : Int32)) + (99 : Int32)) / (100 : Int32)))] [(.int (((((50 : Int32) * (1 : Int32)) + (99 : Int32)) / (100 : Int32)) - (1 : Int32))), (.ref b), (.ref tu)])) _
    refine X176.laload hx (j := (((((50 : Int32) * (1 : Int32)) + (99 : Int32)) / (100 : Int32)) - (1 : Int32))) (v := (.long x0)) (by rw [e176]; exact Ar177.1) (State.isArrayOf_alike hZ.alike Ar177.2.1) Ar177.2.2 hin177 hat177 (g := (mkF m 18 #[.val (.ref b), .val (.int (50 : Int32)), .val (.int ((((50 : Int32) * (1 : Int32)) + (99 : Int32)) / (100 : Int32)))] [(.int (((((50 : Int32) * (1 : Int32)) + (99 : Int32)) / (100 : Int32)) - (1 : Int32))), (.ref b), (.ref tu)])) rfl rfl (hb hby d13_18) _ ?_
    show Steps p.tables e below (T176.setTop (mkF m 19 #[.val (.ref b), .val (.int (50 : Int32)), .val (.int ((((50 : Int32) * (1 : Int32)) + (99 : Int32)) / (100 : Int32)))] [(.long x0), (.ref tu)])) _
    refine st178.trans ?_
    show Steps p.tables e below (T178.setTop (mkF m 22 #[.val (.ref b), .val (.int (50 : Int32)), .val (.int ((((50 : Int32) * (1 : Int32)) + (99 : Int32)) / (100 : Int32)))] [(.long (x0 / (1000000 : Int64)))])) _
    exact retJ X178 hx hret0 (hb hby d13_22) hr
  · show QPm x0 h0 n0 _ T178.heap _
    rw [eh178]
    exact ⟨rfl, N178, rfl⟩
theorem own_pn_rmPm1_99 : plainName "com/example/nosy_pool/nosypool/CheckoutHistory" = true := by first | (simp [plainName, overriddenIn]; done) | decide +kernel
theorem own_ef_rmPm1_99 (m : MethodId) (b : Addr) : entryFrame m #[(.ref b), (.int (99 : Int32))] 3 = (mkF m 0 #[.val (.ref b), .val (.int (99 : Int32)), .unset] []) := by first | (simp [entryFrame, mkF, argsToLocals, Value.category]; done) | rfl
set_option maxRecDepth 65536 in
set_option maxHeartbeats 40000000 in
theorem rmPm1_99 (l : Launch) (Z : State) (a0 : Array Value) (hw : ∀ d ∈ tables_1, d.before a0 Z = true) (ws : List Jvm.Cond) (b : Addr) (kb : ClassId) (x0 : Int64) (x1 : Int64) (tu : Addr) (h0 : Heap) (n0 : Nat) (Z0 : n0 ≤ h0.size) (VB : Arv Z h0 b kb .long (1 : Int32) [(.long x0)] (.long (0 : Int64))) (O6 : Sta Z Z.heap "java/util/concurrent/TimeUnit" "NANOSECONDS" "Ljava/util/concurrent/TimeUnit;" (.ref tu)) (ET : Exa Z Z.heap tu "java/util/concurrent/TimeUnit") (FT1 : Fld Z Z.heap tu "java/util/concurrent/TimeUnit" "scale" "J" (.long (1 : Int64))) (FT2 : Fld Z Z.heap tu "java/util/concurrent/TimeUnit" "milliRatio" "I" (.int (1000000 : Int32))) (X00 : Old Z n0 h0) :
    MetFree l (⟨"com/example/nosy_pool/nosypool/CheckoutHistory", "percentileMs", "([JI)J"⟩ : MethodName) (head1 (Jvm.Cond.code (⟨"com/example/nosy_pool/nosypool/CheckoutHistory", "percentileMs", "([JI)J"⟩ : MethodName) prog_1_method_6_code 3 (some .long) :: ws) ({ frames := 1, cells := 0, slots := 0, locals := 20 } : Room)) (fun a U => a = #[(.ref b), (.int (99 : Int32))] ∧ Z.Warmed39 U.vm ∧ U.heap = h0) (fun _ _ _ _ _ => True) (fun _ U o U' => ∃ v L, o = .returned v ∧ QPm x0 h0 n0 v U'.heap L ∧ FrameEnd U o U' L ({ frames := 1, cells := 0, slots := 0, locals := 20 } : Room).cells ({ frames := 1, cells := 0, slots := 0, locals := 20 } : Room).slots) := by
  refine MetFree.of_bodySF (plainFor_of_name own_pn_rmPm1_99) hisR ?_
  intro p e s m args below meth c s₁ Bd hml0 hP hK
  obtain ⟨hargs, hZ, hh⟩ := hP
  have hx := Bd.exec
  have hby := Bd.bytes
  have hml : c.maxLocals = 3 := hml0
  have hown : s.vm.findClass "com/example/nosy_pool/nosypool/CheckoutHistory" = some m.cls := findClass_of_methodNamed Bd.named
  have hnm := (name_of_methodNamed Bd.named Bd.method).1
  have hlock : meth.locks = false := Bd.notSynchronized
  have hret0 := Bd.returns
  have X0 : Stand p l e ({ frames := 1, cells := 0, slots := 0, locals := 20 } : Room) s m args below meth c s₁ [] 0 0 := Stand.of_body Bd
  have e0 : s₁.heap = h0 := by rw [← hh, Bd.state]; rfl
  have N0 := Fr.nil n0
  have pre0 : ∀ t, Steps p.tables e below (s₁.setTop (mkF m 0 #[.val (.ref b), .val (.int (99 : Int32)), .unset] [])) t → Steps p.tables e below (s₁.setTop (entryFrame m args 3)) t := fun t k => castTop (by rw [hargs]; exact own_ef_rmPm1_99 m b) k
  clear Bd
  obtain ⟨cl179, Ar179, -, S179, M179, -, -⟩ := id VB
  obtain ⟨T180, X180, e180, st180⟩ := getS2 X0 hx hZ hown (host := "") (Or.inl (hw _ (List.mem_of_getElem? (i := 66) rfl))) Via.refl e0 (O6.ext X00.2) (g := (mkF m 11 #[.val (.ref b), .val (.int (99 : Int32)), .val (.int ((((99 : Int32) * (1 : Int32)) + (99 : Int32)) / (100 : Int32)))] [])) rfl (hb hby d13_11)
  obtain ⟨cl181, Ar181, -, S181, M181, Hs181, -⟩ := id VB
  have hin181 := inb_of S181 (j := (((((99 : Int32) * (1 : Int32)) + (99 : Int32)) / (100 : Int32)) - (1 : Int32))) ⟨(by decide), (by decide)⟩
  have hat181 : cl181.slots[((((((99 : Int32) * (1 : Int32)) + (99 : Int32)) / (100 : Int32)) - (1 : Int32))).toNatClampNeg]? = some (.long x0) := Has.at Hs181 hin181 rfl
  obtain ⟨cq182, kq182, q182a, q182b, q182c⟩ := isOf hZ e180 (ET.ext X00.2)
  obtain ⟨v182, vmx182, ⟨T182, L182, k182, n182⟩, -, X182, ⟨Lc182, hQ182, l182, y182, z182⟩, st182⟩ := X180.virtualBack hx (y := (⟨"java/util/concurrent/TimeUnit", "toMillis", "(J)J"⟩ : MethodName)) (z := (⟨"java/util/concurrent/TimeUnit", "toMillis", "(J)J"⟩ : MethodName)) hown (mvT hZ (hw _ (List.mem_of_getElem? (i := 68) rfl))) (mvT hZ (hw _ (List.mem_of_getElem? (i := 69) rfl))) (notFace_of_selects (args := #[]) (mvT hZ (hw _ (List.mem_of_getElem? (i := 71) rfl)))) (mvT hZ (hw _ (List.mem_of_getElem? (i := 71) rfl))) (mvT hZ (hw _ (List.mem_of_getElem? (i := 70) rfl))) (by decide) (backOf (W := 0) (rmTm l Z a0 hw [] tu x0 h0 n0 Z0 (FT1.ext X00.2) (FT2.ext X00.2)) hZ (hw _ (List.mem_of_getElem? (i := 72) rfl)) (hw _ (List.mem_of_getElem? (i := 67) rfl)) (by decide) (by decide)) q182a q182c (g := (mkF m 19 #[.val (.ref b), .val (.int (99 : Int32)), .val (.int ((((99 : Int32) * (1 : Int32)) + (99 : Int32)) / (100 : Int32)))] [(.long x0), (.ref tu)])) rfl (by rw [hml]; rfl) (Steps.refl _) (argsL := [(.long x0)]) (rest := []) (lenOf own_pd5 rfl) rfl (by show 2 * 0 + _ ≤ _; exact Nat.le_of_eq rfl) (hb hby d13_19) (fun _ _ => ⟨rfl, e180, (by decide : 0 + 0 ≤ _), (by decide : 0 + 0 ≤ _)⟩)
  dsimp only [Pt.U, Pt.locs, Pt.cells, Pt.slots] at X182 l182 y182 z182 st182 hQ182
  subst l182 y182 z182
  obtain ⟨rfl, Nq182, eh182⟩ := hQ182
  have N182 := Fr.app N0 Nq182
  obtain ⟨fs, hr, hrun, hended, hW, hsame⟩ := X182.leave (v := some (.long (x0 / (1000000 : Int64)))) (fun h => by rw [hret0] at h; cases h)
  refine ⟨_, _, pre0 _ ?_, hrun, hended, _, _, rfl, ?_, ⟨_, rfl⟩, hW, hsame.mono (by decide) (by decide)⟩
  · show Steps p.tables e below (s₁.setTop (mkF m 0 #[.val (.ref b), .val (.int (99 : Int32)), .unset] [])) _
    refine XS.iloadN X0.here hx rfl (hb hby d13_0) rfl ?_
    show Steps p.tables e below (s₁.setTop (mkF m 1 #[.val (.ref b), .val (.int (99 : Int32)), .unset] [(.int (99 : Int32))])) _
    refine XS.aloadN X0.here hx rfl (hb hby d13_1) rfl rfl ?_
    show Steps p.tables e below (s₁.setTop (mkF m 2 #[.val (.ref b), .val (.int (99 : Int32)), .unset] [(.ref b), (.int (99 : Int32))])) _
    refine X0.arraylength hx (by rw [e0]; exact Ar179.1) (State.isArrayOf_alike hZ.alike Ar179.2.1) (g := (mkF m 2 #[.val (.ref b), .val (.int (99 : Int32)), .unset] [(.ref b), (.int (99 : Int32))])) rfl rfl (hb hby d13_2) _ ?_
    rw [len_of S179 M179]
    show Steps p.tables e below (s₁.setTop (mkF m 3 #[.val (.ref b), .val (.int (99 : Int32)), .unset] [(.int (1 : Int32)), (.int (99 : Int32))])) _
    refine XS.imul X0.here hx rfl (hb hby d13_3) rfl ?_
    show Steps p.tables e below (s₁.setTop (mkF m 4 #[.val (.ref b), .val (.int (99 : Int32)), .unset] [(.int ((99 : Int32) * (1 : Int32)))])) _
    refine XS.bipush X0.here hx rfl (hb hby d13_4) ?_
    show Steps p.tables e below (s₁.setTop (mkF m 6 #[.val (.ref b), .val (.int (99 : Int32)), .unset] [(.int (99 : Int32)), (.int ((99 : Int32) * (1 : Int32)))])) _
    refine XS.iadd X0.here hx rfl (hb hby d13_6) rfl ?_
    show Steps p.tables e below (s₁.setTop (mkF m 7 #[.val (.ref b), .val (.int (99 : Int32)), .unset] [(.int (((99 : Int32) * (1 : Int32)) + (99 : Int32)))])) _
    refine XS.bipush X0.here hx rfl (hb hby d13_7) ?_
    show Steps p.tables e below (s₁.setTop (mkF m 9 #[.val (.ref b), .val (.int (99 : Int32)), .unset] [(.int (100 : Int32)), (.int (((99 : Int32) * (1 : Int32)) + (99 : Int32)))])) _
    refine XS.idiv X0.here hx rfl (hb hby d13_9) rfl (by decide) ?_
    show Steps p.tables e below (s₁.setTop (mkF m 10 #[.val (.ref b), .val (.int (99 : Int32)), .unset] [(.int ((((99 : Int32) * (1 : Int32)) + (99 : Int32)) / (100 : Int32)))])) _
    refine XS.istoreN X0.here hx rfl (hb hby d13_10) rfl (l' := #[.val (.ref b), .val (.int (99 : Int32)), .val (.int ((((99 : Int32) * (1 : Int32)) + (99 : Int32)) / (100 : Int32)))]) rfl ?_
    show Steps p.tables e below (s₁.setTop (mkF m 11 #[.val (.ref b), .val (.int (99 : Int32)), .val (.int ((((99 : Int32) * (1 : Int32)) + (99 : Int32)) / (100 : Int32)))] [])) _
    refine st180 _ ?_
    show Steps p.tables e below (T180.setTop (mkF m 14 #[.val (.ref b), .val (.int (99 : Int32)), .val (.int ((((99 : Int32) * (1 : Int32)) + (99 : Int32)) / (100 : Int32)))] [(.ref tu)])) _
    refine XS.aloadN X180.here hx rfl (hb hby d13_14) rfl rfl ?_
    show Steps p.tables e below (T180.setTop (mkF m 15 #[.val (.ref b), .val (.int (99 : Int32)), .val (.int ((((99 : Int32) * (1 : Int32)) + (99 : Int32)) / (100 : Int32)))] [(.ref b), (.ref tu)])) _
    refine XS.iloadN X180.here hx rfl (hb hby d13_15) rfl ?_
    show Steps p.tables e below (T180.setTop (mkF m 16 #[.val (.ref b), .val (.int (99 : Int32)), .val (.int ((((99 : Int32) * (1 : Int32)) + (99 : Int32)) / (100 : Int32)))] [(.int ((((99 : Int32) * (1 : Int32)) + (99 : Int32)) / (100 : Int32))), (.ref b), (.ref tu)])) _
    refine XS.iconst X180.here hx rfl (hb hby d13_16) ?_
    show Steps p.tables e below (T180.setTop (mkF m 17 #[.val (.ref b), .val (.int (99 : Int32)), .val (.int ((((99 : Int32) * (1 : Int32)) + (99 : Int32)) / (100 : Int32)))] [(.int (1 : Int32)), (.int ((((99 : Int32) * (1 : Int32)) + (99 : Int32)) / (100 : Int32))), (.ref b), (.ref tu)])) _
    refine XS.isub X180.here hx rfl (hb hby d13_17) rfl ?_
    show Steps p.tables e below (T180.setTop (mkF m 18 #[.val (.ref b), .val (.int (99 : Int32)), .val (.int ((((99 : Int32) * (1 : Int32)) + (99 : Int32)) / (100 : Int32)))] [(.int (((((99 : Int32) * (1 : Int32)) + (99 : Int32)) / (100 : Int32)) - (1 : Int32))), (.ref b), (.ref tu)])) _
    refine X180.laload hx (j := (((((99 : Int32) * (1 : Int32)) + (99 : Int32)) / (100 : Int32)) - (1 : Int32))) (v := (.long x0)) (by rw [e180]; exact Ar181.1) (State.isArrayOf_alike hZ.alike Ar181.2.1) Ar181.2.2 hin181 hat181 (g := (mkF m 18 #[.val (.ref b), .val (.int (99 : Int32)), .val (.int ((((99 : Int32) * (1 : Int32)) + (99 : Int32)) / (100 : Int32)))] [(.int (((((99 : Int32) * (1 : Int32)) + (99 : Int32)) / (100 : Int32)) - (1 : Int32))), (.ref b), (.ref tu)])) rfl rfl (hb hby d13_18) _ ?_
    show Steps p.tables e below (T180.setTop (mkF m 19 #[.val (.ref b), .val (.int (99 : Int32)), .val (.int ((((99 : Int32) * (1 : Int32)) + (99 : Int32)) / (100 : Int32)))] [(.long x0), (.ref tu)])) _
    refine st182.trans ?_
    show Steps p.tables e below (T182.setTop (mkF m 22 #[.val (.ref b), .val (.int (99 : Int32)), .val (.int ((((99 : Int32) * (1 : Int32)) + (99 : Int32)) / (100 : Int32)))] [(.long (x0 / (1000000 : Int64)))])) _
    exact retJ X182 hx hret0 (hb hby d13_22) hr
  · show QPm x0 h0 n0 _ T182.heap _
    rw [eh182]
    exact ⟨rfl, N182, rfl⟩
theorem own_pn_rmPm2_50 : plainName "com/example/nosy_pool/nosypool/CheckoutHistory" = true := by first | (simp [plainName, overriddenIn]; done) | decide +kernel
theorem own_ef_rmPm2_50 (m : MethodId) (b : Addr) : entryFrame m #[(.ref b), (.int (50 : Int32))] 3 = (mkF m 0 #[.val (.ref b), .val (.int (50 : Int32)), .unset] []) := by first | (simp [entryFrame, mkF, argsToLocals, Value.category]; done) | rfl
set_option maxRecDepth 65536 in
set_option maxHeartbeats 40000000 in
theorem rmPm2_50 (l : Launch) (Z : State) (a0 : Array Value) (hw : ∀ d ∈ tables_1, d.before a0 Z = true) (ws : List Jvm.Cond) (b : Addr) (kb : ClassId) (x0 : Int64) (x1 : Int64) (tu : Addr) (h0 : Heap) (n0 : Nat) (Z0 : n0 ≤ h0.size) (VB : Arv Z h0 b kb .long (2 : Int32) [(.long x0), (.long x1)] (.long (0 : Int64))) (O6 : Sta Z Z.heap "java/util/concurrent/TimeUnit" "NANOSECONDS" "Ljava/util/concurrent/TimeUnit;" (.ref tu)) (ET : Exa Z Z.heap tu "java/util/concurrent/TimeUnit") (FT1 : Fld Z Z.heap tu "java/util/concurrent/TimeUnit" "scale" "J" (.long (1 : Int64))) (FT2 : Fld Z Z.heap tu "java/util/concurrent/TimeUnit" "milliRatio" "I" (.int (1000000 : Int32))) (X00 : Old Z n0 h0) :
    MetFree l (⟨"com/example/nosy_pool/nosypool/CheckoutHistory", "percentileMs", "([JI)J"⟩ : MethodName) (head1 (Jvm.Cond.code (⟨"com/example/nosy_pool/nosypool/CheckoutHistory", "percentileMs", "([JI)J"⟩ : MethodName) prog_1_method_6_code 3 (some .long) :: ws) ({ frames := 1, cells := 0, slots := 0, locals := 20 } : Room)) (fun a U => a = #[(.ref b), (.int (50 : Int32))] ∧ Z.Warmed39 U.vm ∧ U.heap = h0) (fun _ _ _ _ _ => True) (fun _ U o U' => ∃ v L, o = .returned v ∧ QPm x0 h0 n0 v U'.heap L ∧ FrameEnd U o U' L ({ frames := 1, cells := 0, slots := 0, locals := 20 } : Room).cells ({ frames := 1, cells := 0, slots := 0, locals := 20 } : Room).slots) := by
  refine MetFree.of_bodySF (plainFor_of_name own_pn_rmPm2_50) hisR ?_
  intro p e s m args below meth c s₁ Bd hml0 hP hK
  obtain ⟨hargs, hZ, hh⟩ := hP
  have hx := Bd.exec
  have hby := Bd.bytes
  have hml : c.maxLocals = 3 := hml0
  have hown : s.vm.findClass "com/example/nosy_pool/nosypool/CheckoutHistory" = some m.cls := findClass_of_methodNamed Bd.named
  have hnm := (name_of_methodNamed Bd.named Bd.method).1
  have hlock : meth.locks = false := Bd.notSynchronized
  have hret0 := Bd.returns
  have X0 : Stand p l e ({ frames := 1, cells := 0, slots := 0, locals := 20 } : Room) s m args below meth c s₁ [] 0 0 := Stand.of_body Bd
  have e0 : s₁.heap = h0 := by rw [← hh, Bd.state]; rfl
  have N0 := Fr.nil n0
  have pre0 : ∀ t, Steps p.tables e below (s₁.setTop (mkF m 0 #[.val (.ref b), .val (.int (50 : Int32)), .unset] [])) t → Steps p.tables e below (s₁.setTop (entryFrame m args 3)) t := fun t k => castTop (by rw [hargs]; exact own_ef_rmPm2_50 m b) k
  clear Bd
  obtain ⟨cl183, Ar183, -, S183, M183, -, -⟩ := id VB
  obtain ⟨T184, X184, e184, st184⟩ := getS2 X0 hx hZ hown (host := "") (Or.inl (hw _ (List.mem_of_getElem? (i := 66) rfl))) Via.refl e0 (O6.ext X00.2) (g := (mkF m 11 #[.val (.ref b), .val (.int (50 : Int32)), .val (.int ((((50 : Int32) * (2 : Int32)) + (99 : Int32)) / (100 : Int32)))] [])) rfl (hb hby d13_11)
  obtain ⟨cl185, Ar185, -, S185, M185, Hs185, -⟩ := id VB
  have hin185 := inb_of S185 (j := (((((50 : Int32) * (2 : Int32)) + (99 : Int32)) / (100 : Int32)) - (1 : Int32))) ⟨(by decide), (by decide)⟩
  have hat185 : cl185.slots[((((((50 : Int32) * (2 : Int32)) + (99 : Int32)) / (100 : Int32)) - (1 : Int32))).toNatClampNeg]? = some (.long x0) := Has.at Hs185 hin185 rfl
  obtain ⟨cq186, kq186, q186a, q186b, q186c⟩ := isOf hZ e184 (ET.ext X00.2)
  obtain ⟨v186, vmx186, ⟨T186, L186, k186, n186⟩, -, X186, ⟨Lc186, hQ186, l186, y186, z186⟩, st186⟩ := X184.virtualBack hx (y := (⟨"java/util/concurrent/TimeUnit", "toMillis", "(J)J"⟩ : MethodName)) (z := (⟨"java/util/concurrent/TimeUnit", "toMillis", "(J)J"⟩ : MethodName)) hown (mvT hZ (hw _ (List.mem_of_getElem? (i := 68) rfl))) (mvT hZ (hw _ (List.mem_of_getElem? (i := 69) rfl))) (notFace_of_selects (args := #[]) (mvT hZ (hw _ (List.mem_of_getElem? (i := 71) rfl)))) (mvT hZ (hw _ (List.mem_of_getElem? (i := 71) rfl))) (mvT hZ (hw _ (List.mem_of_getElem? (i := 70) rfl))) (by decide) (backOf (W := 0) (rmTm l Z a0 hw [] tu x0 h0 n0 Z0 (FT1.ext X00.2) (FT2.ext X00.2)) hZ (hw _ (List.mem_of_getElem? (i := 72) rfl)) (hw _ (List.mem_of_getElem? (i := 67) rfl)) (by decide) (by decide)) q186a q186c (g := (mkF m 19 #[.val (.ref b), .val (.int (50 : Int32)), .val (.int ((((50 : Int32) * (2 : Int32)) + (99 : Int32)) / (100 : Int32)))] [(.long x0), (.ref tu)])) rfl (by rw [hml]; rfl) (Steps.refl _) (argsL := [(.long x0)]) (rest := []) (lenOf own_pd5 rfl) rfl (by show 2 * 0 + _ ≤ _; exact Nat.le_of_eq rfl) (hb hby d13_19) (fun _ _ => ⟨rfl, e184, (by decide : 0 + 0 ≤ _), (by decide : 0 + 0 ≤ _)⟩)
  dsimp only [Pt.U, Pt.locs, Pt.cells, Pt.slots] at X186 l186 y186 z186 st186 hQ186
  subst l186 y186 z186
  obtain ⟨rfl, Nq186, eh186⟩ := hQ186
  have N186 := Fr.app N0 Nq186
  obtain ⟨fs, hr, hrun, hended, hW, hsame⟩ := X186.leave (v := some (.long (x0 / (1000000 : Int64)))) (fun h => by rw [hret0] at h; cases h)
  refine ⟨_, _, pre0 _ ?_, hrun, hended, _, _, rfl, ?_, ⟨_, rfl⟩, hW, hsame.mono (by decide) (by decide)⟩
  · show Steps p.tables e below (s₁.setTop (mkF m 0 #[.val (.ref b), .val (.int (50 : Int32)), .unset] [])) _
    refine XS.iloadN X0.here hx rfl (hb hby d13_0) rfl ?_
    show Steps p.tables e below (s₁.setTop (mkF m 1 #[.val (.ref b), .val (.int (50 : Int32)), .unset] [(.int (50 : Int32))])) _
    refine XS.aloadN X0.here hx rfl (hb hby d13_1) rfl rfl ?_
    show Steps p.tables e below (s₁.setTop (mkF m 2 #[.val (.ref b), .val (.int (50 : Int32)), .unset] [(.ref b), (.int (50 : Int32))])) _
    refine X0.arraylength hx (by rw [e0]; exact Ar183.1) (State.isArrayOf_alike hZ.alike Ar183.2.1) (g := (mkF m 2 #[.val (.ref b), .val (.int (50 : Int32)), .unset] [(.ref b), (.int (50 : Int32))])) rfl rfl (hb hby d13_2) _ ?_
    rw [len_of S183 M183]
    show Steps p.tables e below (s₁.setTop (mkF m 3 #[.val (.ref b), .val (.int (50 : Int32)), .unset] [(.int (2 : Int32)), (.int (50 : Int32))])) _
    refine XS.imul X0.here hx rfl (hb hby d13_3) rfl ?_
    show Steps p.tables e below (s₁.setTop (mkF m 4 #[.val (.ref b), .val (.int (50 : Int32)), .unset] [(.int ((50 : Int32) * (2 : Int32)))])) _
    refine XS.bipush X0.here hx rfl (hb hby d13_4) ?_
    show Steps p.tables e below (s₁.setTop (mkF m 6 #[.val (.ref b), .val (.int (50 : Int32)), .unset] [(.int (99 : Int32)), (.int ((50 : Int32) * (2 : Int32)))])) _
    refine XS.iadd X0.here hx rfl (hb hby d13_6) rfl ?_
    show Steps p.tables e below (s₁.setTop (mkF m 7 #[.val (.ref b), .val (.int (50 : Int32)), .unset] [(.int (((50 : Int32) * (2 : Int32)) + (99 : Int32)))])) _
    refine XS.bipush X0.here hx rfl (hb hby d13_7) ?_
    show Steps p.tables e below (s₁.setTop (mkF m 9 #[.val (.ref b), .val (.int (50 : Int32)), .unset] [(.int (100 : Int32)), (.int (((50 : Int32) * (2 : Int32)) + (99 : Int32)))])) _
    refine XS.idiv X0.here hx rfl (hb hby d13_9) rfl (by decide) ?_
    show Steps p.tables e below (s₁.setTop (mkF m 10 #[.val (.ref b), .val (.int (50 : Int32)), .unset] [(.int ((((50 : Int32) * (2 : Int32)) + (99 : Int32)) / (100 : Int32)))])) _
    refine XS.istoreN X0.here hx rfl (hb hby d13_10) rfl (l' := #[.val (.ref b), .val (.int (50 : Int32)), .val (.int ((((50 : Int32) * (2 : Int32)) + (99 : Int32)) / (100 : Int32)))]) rfl ?_
    show Steps p.tables e below (s₁.setTop (mkF m 11 #[.val (.ref b), .val (.int (50 : Int32)), .val (.int ((((50 : Int32) * (2 : Int32)) + (99 : Int32)) / (100 : Int32)))] [])) _
    refine st184 _ ?_
    show Steps p.tables e below (T184.setTop (mkF m 14 #[.val (.ref b), .val (.int (50 : Int32)), .val (.int ((((50 : Int32) * (2 : Int32)) + (99 : Int32)) / (100 : Int32)))] [(.ref tu)])) _
    refine XS.aloadN X184.here hx rfl (hb hby d13_14) rfl rfl ?_
    show Steps p.tables e below (T184.setTop (mkF m 15 #[.val (.ref b), .val (.int (50 : Int32)), .val (.int ((((50 : Int32) * (2 : Int32)) + (99 : Int32)) / (100 : Int32)))] [(.ref b), (.ref tu)])) _
    refine XS.iloadN X184.here hx rfl (hb hby d13_15) rfl ?_
    show Steps p.tables e below (T184.setTop (mkF m 16 #[.val (.ref b), .val (.int (50 : Int32)), .val (.int ((((50 : Int32) * (2 : Int32)) + (99 : Int32)) / (100 : Int32)))] [(.int ((((50 : Int32) * (2 : Int32)) + (99 : Int32)) / (100 : Int32))), (.ref b), (.ref tu)])) _
    refine XS.iconst X184.here hx rfl (hb hby d13_16) ?_
    show Steps p.tables e below (T184.setTop (mkF m 17 #[.val (.ref b), .val (.int (50 : Int32)), .val (.int ((((50 : Int32) * (2 : Int32)) + (99 : Int32)) / (100 : Int32)))] [(.int (1 : Int32)), (.int ((((50 : Int32) * (2 : Int32)) + (99 : Int32)) / (100 : Int32))), (.ref b), (.ref tu)])) _
    refine XS.isub X184.here hx rfl (hb hby d13_17) rfl ?_
    show Steps p.tables e below (T184.setTop (mkF m 18 #[.val (.ref b), .val (.int (50 : Int32)), .val (.int ((((50 : Int32) * (2 : Int32)) + (99 : Int32)) / (100 : Int32)))] [(.int (((((50 : Int32) * (2 : Int32)) + (99 : Int32)) / (100 : Int32)) - (1 : Int32))), (.ref b), (.ref tu)])) _
    refine X184.laload hx (j := (((((50 : Int32) * (2 : Int32)) + (99 : Int32)) / (100 : Int32)) - (1 : Int32))) (v := (.long x0)) (by rw [e184]; exact Ar185.1) (State.isArrayOf_alike hZ.alike Ar185.2.1) Ar185.2.2 hin185 hat185 (g := (mkF m 18 #[.val (.ref b), .val (.int (50 : Int32)), .val (.int ((((50 : Int32) * (2 : Int32)) + (99 : Int32)) / (100 : Int32)))] [(.int (((((50 : Int32) * (2 : Int32)) + (99 : Int32)) / (100 : Int32)) - (1 : Int32))), (.ref b), (.ref tu)])) rfl rfl (hb hby d13_18) _ ?_
    show Steps p.tables e below (T184.setTop (mkF m 19 #[.val (.ref b), .val (.int (50 : Int32)), .val (.int ((((50 : Int32) * (2 : Int32)) + (99 : Int32)) / (100 : Int32)))] [(.long x0), (.ref tu)])) _
    refine st186.trans ?_
    show Steps p.tables e below (T186.setTop (mkF m 22 #[.val (.ref b), .val (.int (50 : Int32)), .val (.int ((((50 : Int32) * (2 : Int32)) + (99 : Int32)) / (100 : Int32)))] [(.long (x0 / (1000000 : Int64)))])) _
    exact retJ X186 hx hret0 (hb hby d13_22) hr
  · show QPm x0 h0 n0 _ T186.heap _
    rw [eh186]
    exact ⟨rfl, N186, rfl⟩
theorem own_pn_rmPm2_99 : plainName "com/example/nosy_pool/nosypool/CheckoutHistory" = true := by first | (simp [plainName, overriddenIn]; done) | decide +kernel
theorem own_ef_rmPm2_99 (m : MethodId) (b : Addr) : entryFrame m #[(.ref b), (.int (99 : Int32))] 3 = (mkF m 0 #[.val (.ref b), .val (.int (99 : Int32)), .unset] []) := by first | (simp [entryFrame, mkF, argsToLocals, Value.category]; done) | rfl
set_option maxRecDepth 65536 in
set_option maxHeartbeats 40000000 in
theorem rmPm2_99 (l : Launch) (Z : State) (a0 : Array Value) (hw : ∀ d ∈ tables_1, d.before a0 Z = true) (ws : List Jvm.Cond) (b : Addr) (kb : ClassId) (x0 : Int64) (x1 : Int64) (tu : Addr) (h0 : Heap) (n0 : Nat) (Z0 : n0 ≤ h0.size) (VB : Arv Z h0 b kb .long (2 : Int32) [(.long x0), (.long x1)] (.long (0 : Int64))) (O6 : Sta Z Z.heap "java/util/concurrent/TimeUnit" "NANOSECONDS" "Ljava/util/concurrent/TimeUnit;" (.ref tu)) (ET : Exa Z Z.heap tu "java/util/concurrent/TimeUnit") (FT1 : Fld Z Z.heap tu "java/util/concurrent/TimeUnit" "scale" "J" (.long (1 : Int64))) (FT2 : Fld Z Z.heap tu "java/util/concurrent/TimeUnit" "milliRatio" "I" (.int (1000000 : Int32))) (X00 : Old Z n0 h0) :
    MetFree l (⟨"com/example/nosy_pool/nosypool/CheckoutHistory", "percentileMs", "([JI)J"⟩ : MethodName) (head1 (Jvm.Cond.code (⟨"com/example/nosy_pool/nosypool/CheckoutHistory", "percentileMs", "([JI)J"⟩ : MethodName) prog_1_method_6_code 3 (some .long) :: ws) ({ frames := 1, cells := 0, slots := 0, locals := 20 } : Room)) (fun a U => a = #[(.ref b), (.int (99 : Int32))] ∧ Z.Warmed39 U.vm ∧ U.heap = h0) (fun _ _ _ _ _ => True) (fun _ U o U' => ∃ v L, o = .returned v ∧ QPm x1 h0 n0 v U'.heap L ∧ FrameEnd U o U' L ({ frames := 1, cells := 0, slots := 0, locals := 20 } : Room).cells ({ frames := 1, cells := 0, slots := 0, locals := 20 } : Room).slots) := by
  refine MetFree.of_bodySF (plainFor_of_name own_pn_rmPm2_99) hisR ?_
  intro p e s m args below meth c s₁ Bd hml0 hP hK
  obtain ⟨hargs, hZ, hh⟩ := hP
  have hx := Bd.exec
  have hby := Bd.bytes
  have hml : c.maxLocals = 3 := hml0
  have hown : s.vm.findClass "com/example/nosy_pool/nosypool/CheckoutHistory" = some m.cls := findClass_of_methodNamed Bd.named
  have hnm := (name_of_methodNamed Bd.named Bd.method).1
  have hlock : meth.locks = false := Bd.notSynchronized
  have hret0 := Bd.returns
  have X0 : Stand p l e ({ frames := 1, cells := 0, slots := 0, locals := 20 } : Room) s m args below meth c s₁ [] 0 0 := Stand.of_body Bd
  have e0 : s₁.heap = h0 := by rw [← hh, Bd.state]; rfl
  have N0 := Fr.nil n0
  have pre0 : ∀ t, Steps p.tables e below (s₁.setTop (mkF m 0 #[.val (.ref b), .val (.int (99 : Int32)), .unset] [])) t → Steps p.tables e below (s₁.setTop (entryFrame m args 3)) t := fun t k => castTop (by rw [hargs]; exact own_ef_rmPm2_99 m b) k
  clear Bd
  obtain ⟨cl187, Ar187, -, S187, M187, -, -⟩ := id VB
  obtain ⟨T188, X188, e188, st188⟩ := getS2 X0 hx hZ hown (host := "") (Or.inl (hw _ (List.mem_of_getElem? (i := 66) rfl))) Via.refl e0 (O6.ext X00.2) (g := (mkF m 11 #[.val (.ref b), .val (.int (99 : Int32)), .val (.int ((((99 : Int32) * (2 : Int32)) + (99 : Int32)) / (100 : Int32)))] [])) rfl (hb hby d13_11)
  obtain ⟨cl189, Ar189, -, S189, M189, Hs189, -⟩ := id VB
  have hin189 := inb_of S189 (j := (((((99 : Int32) * (2 : Int32)) + (99 : Int32)) / (100 : Int32)) - (1 : Int32))) ⟨(by decide), (by decide)⟩
  have hat189 : cl189.slots[((((((99 : Int32) * (2 : Int32)) + (99 : Int32)) / (100 : Int32)) - (1 : Int32))).toNatClampNeg]? = some (.long x1) := Has.at Hs189 hin189 rfl
  obtain ⟨cq190, kq190, q190a, q190b, q190c⟩ := isOf hZ e188 (ET.ext X00.2)
  obtain ⟨v190, vmx190, ⟨T190, L190, k190, n190⟩, -, X190, ⟨Lc190, hQ190, l190, y190, z190⟩, st190⟩ := X188.virtualBack hx (y := (⟨"java/util/concurrent/TimeUnit", "toMillis", "(J)J"⟩ : MethodName)) (z := (⟨"java/util/concurrent/TimeUnit", "toMillis", "(J)J"⟩ : MethodName)) hown (mvT hZ (hw _ (List.mem_of_getElem? (i := 68) rfl))) (mvT hZ (hw _ (List.mem_of_getElem? (i := 69) rfl))) (notFace_of_selects (args := #[]) (mvT hZ (hw _ (List.mem_of_getElem? (i := 71) rfl)))) (mvT hZ (hw _ (List.mem_of_getElem? (i := 71) rfl))) (mvT hZ (hw _ (List.mem_of_getElem? (i := 70) rfl))) (by decide) (backOf (W := 0) (rmTm l Z a0 hw [] tu x1 h0 n0 Z0 (FT1.ext X00.2) (FT2.ext X00.2)) hZ (hw _ (List.mem_of_getElem? (i := 72) rfl)) (hw _ (List.mem_of_getElem? (i := 67) rfl)) (by decide) (by decide)) q190a q190c (g := (mkF m 19 #[.val (.ref b), .val (.int (99 : Int32)), .val (.int ((((99 : Int32) * (2 : Int32)) + (99 : Int32)) / (100 : Int32)))] [(.long x1), (.ref tu)])) rfl (by rw [hml]; rfl) (Steps.refl _) (argsL := [(.long x1)]) (rest := []) (lenOf own_pd5 rfl) rfl (by show 2 * 0 + _ ≤ _; exact Nat.le_of_eq rfl) (hb hby d13_19) (fun _ _ => ⟨rfl, e188, (by decide : 0 + 0 ≤ _), (by decide : 0 + 0 ≤ _)⟩)
  dsimp only [Pt.U, Pt.locs, Pt.cells, Pt.slots] at X190 l190 y190 z190 st190 hQ190
  subst l190 y190 z190
  obtain ⟨rfl, Nq190, eh190⟩ := hQ190
  have N190 := Fr.app N0 Nq190
  obtain ⟨fs, hr, hrun, hended, hW, hsame⟩ := X190.leave (v := some (.long (x1 / (1000000 : Int64)))) (fun h => by rw [hret0] at h; cases h)
  refine ⟨_, _, pre0 _ ?_, hrun, hended, _, _, rfl, ?_, ⟨_, rfl⟩, hW, hsame.mono (by decide) (by decide)⟩
  · show Steps p.tables e below (s₁.setTop (mkF m 0 #[.val (.ref b), .val (.int (99 : Int32)), .unset] [])) _
    refine XS.iloadN X0.here hx rfl (hb hby d13_0) rfl ?_
    show Steps p.tables e below (s₁.setTop (mkF m 1 #[.val (.ref b), .val (.int (99 : Int32)), .unset] [(.int (99 : Int32))])) _
    refine XS.aloadN X0.here hx rfl (hb hby d13_1) rfl rfl ?_
    show Steps p.tables e below (s₁.setTop (mkF m 2 #[.val (.ref b), .val (.int (99 : Int32)), .unset] [(.ref b), (.int (99 : Int32))])) _
    refine X0.arraylength hx (by rw [e0]; exact Ar187.1) (State.isArrayOf_alike hZ.alike Ar187.2.1) (g := (mkF m 2 #[.val (.ref b), .val (.int (99 : Int32)), .unset] [(.ref b), (.int (99 : Int32))])) rfl rfl (hb hby d13_2) _ ?_
    rw [len_of S187 M187]
    show Steps p.tables e below (s₁.setTop (mkF m 3 #[.val (.ref b), .val (.int (99 : Int32)), .unset] [(.int (2 : Int32)), (.int (99 : Int32))])) _
    refine XS.imul X0.here hx rfl (hb hby d13_3) rfl ?_
    show Steps p.tables e below (s₁.setTop (mkF m 4 #[.val (.ref b), .val (.int (99 : Int32)), .unset] [(.int ((99 : Int32) * (2 : Int32)))])) _
    refine XS.bipush X0.here hx rfl (hb hby d13_4) ?_
    show Steps p.tables e below (s₁.setTop (mkF m 6 #[.val (.ref b), .val (.int (99 : Int32)), .unset] [(.int (99 : Int32)), (.int ((99 : Int32) * (2 : Int32)))])) _
    refine XS.iadd X0.here hx rfl (hb hby d13_6) rfl ?_
    show Steps p.tables e below (s₁.setTop (mkF m 7 #[.val (.ref b), .val (.int (99 : Int32)), .unset] [(.int (((99 : Int32) * (2 : Int32)) + (99 : Int32)))])) _
    refine XS.bipush X0.here hx rfl (hb hby d13_7) ?_
    show Steps p.tables e below (s₁.setTop (mkF m 9 #[.val (.ref b), .val (.int (99 : Int32)), .unset] [(.int (100 : Int32)), (.int (((99 : Int32) * (2 : Int32)) + (99 : Int32)))])) _
    refine XS.idiv X0.here hx rfl (hb hby d13_9) rfl (by decide) ?_
    show Steps p.tables e below (s₁.setTop (mkF m 10 #[.val (.ref b), .val (.int (99 : Int32)), .unset] [(.int ((((99 : Int32) * (2 : Int32)) + (99 : Int32)) / (100 : Int32)))])) _
    refine XS.istoreN X0.here hx rfl (hb hby d13_10) rfl (l' := #[.val (.ref b), .val (.int (99 : Int32)), .val (.int ((((99 : Int32) * (2 : Int32)) + (99 : Int32)) / (100 : Int32)))]) rfl ?_
    show Steps p.tables e below (s₁.setTop (mkF m 11 #[.val (.ref b), .val (.int (99 : Int32)), .val (.int ((((99 : Int32) * (2 : Int32)) + (99 : Int32)) / (100 : Int32)))] [])) _
    refine st188 _ ?_
    show Steps p.tables e below (T188.setTop (mkF m 14 #[.val (.ref b), .val (.int (99 : Int32)), .val (.int ((((99 : Int32) * (2 : Int32)) + (99 : Int32)) / (100 : Int32)))] [(.ref tu)])) _
    refine XS.aloadN X188.here hx rfl (hb hby d13_14) rfl rfl ?_
    show Steps p.tables e below (T188.setTop (mkF m 15 #[.val (.ref b), .val (.int (99 : Int32)), .val (.int ((((99 : Int32) * (2 : Int32)) + (99 : Int32)) / (100 : Int32)))] [(.ref b), (.ref tu)])) _
    refine XS.iloadN X188.here hx rfl (hb hby d13_15) rfl ?_
    show Steps p.tables e below (T188.setTop (mkF m 16 #[.val (.ref b), .val (.int (99 : Int32)), .val (.int ((((99 : Int32) * (2 : Int32)) + (99 : Int32)) / (100 : Int32)))] [(.int ((((99 : Int32) * (2 : Int32)) + (99 : Int32)) / (100 : Int32))), (.ref b), (.ref tu)])) _
    refine XS.iconst X188.here hx rfl (hb hby d13_16) ?_
    show Steps p.tables e below (T188.setTop (mkF m 17 #[.val (.ref b), .val (.int (99 : Int32)), .val (.int ((((99 : Int32) * (2 : Int32)) + (99 : Int32)) / (100 : Int32)))] [(.int (1 : Int32)), (.int ((((99 : Int32) * (2 : Int32)) + (99 : Int32)) / (100 : Int32))), (.ref b), (.ref tu)])) _
    refine XS.isub X188.here hx rfl (hb hby d13_17) rfl ?_
    show Steps p.tables e below (T188.setTop (mkF m 18 #[.val (.ref b), .val (.int (99 : Int32)), .val (.int ((((99 : Int32) * (2 : Int32)) + (99 : Int32)) / (100 : Int32)))] [(.int (((((99 : Int32) * (2 : Int32)) + (99 : Int32)) / (100 : Int32)) - (1 : Int32))), (.ref b), (.ref tu)])) _
    refine X188.laload hx (j := (((((99 : Int32) * (2 : Int32)) + (99 : Int32)) / (100 : Int32)) - (1 : Int32))) (v := (.long x1)) (by rw [e188]; exact Ar189.1) (State.isArrayOf_alike hZ.alike Ar189.2.1) Ar189.2.2 hin189 hat189 (g := (mkF m 18 #[.val (.ref b), .val (.int (99 : Int32)), .val (.int ((((99 : Int32) * (2 : Int32)) + (99 : Int32)) / (100 : Int32)))] [(.int (((((99 : Int32) * (2 : Int32)) + (99 : Int32)) / (100 : Int32)) - (1 : Int32))), (.ref b), (.ref tu)])) rfl rfl (hb hby d13_18) _ ?_
    show Steps p.tables e below (T188.setTop (mkF m 19 #[.val (.ref b), .val (.int (99 : Int32)), .val (.int ((((99 : Int32) * (2 : Int32)) + (99 : Int32)) / (100 : Int32)))] [(.long x1), (.ref tu)])) _
    refine st190.trans ?_
    show Steps p.tables e below (T190.setTop (mkF m 22 #[.val (.ref b), .val (.int (99 : Int32)), .val (.int ((((99 : Int32) * (2 : Int32)) + (99 : Int32)) / (100 : Int32)))] [(.long (x1 / (1000000 : Int64)))])) _
    exact retJ X190 hx hret0 (hb hby d13_22) hr
  · show QPm x1 h0 n0 _ T190.heap _
    rw [eh190]
    exact ⟨rfl, N190, rfl⟩
theorem d16_0 : decode jdk_30_method_1_code 0 = .ok (.aload_n 0, 1) := by decide +kernel
theorem d16_1 : decode jdk_30_method_1_code 1 = .ok (.invokespecial 1, 3) := by decide +kernel
theorem d16_4 : decode jdk_30_method_1_code 4 = .ok (.return_, 1) := by decide +kernel
def QrmR (h0 : Heap) (n0 : Nat) (v : Option Value) (h : Heap) (L : List Loc) : Prop := v = none ∧ Fr n0 L ∧ h = h0
theorem own_pn_rmR : plainName "java/lang/Record" = true := by first | (simp [plainName, overriddenIn]; done) | decide +kernel
theorem own_ef_rmR (m : MethodId) (a1 : Addr) : entryFrame m #[(.ref a1)] 1 = (mkF m 0 #[.val (.ref a1)] []) := by first | (simp [entryFrame, mkF, argsToLocals, Value.category]; done) | rfl
set_option maxRecDepth 65536 in
set_option maxHeartbeats 40000000 in
theorem rmR (l : Launch) (Z : State) (a0 : Array Value) (hw : ∀ d ∈ tables_1, d.before a0 Z = true) (ws : List Jvm.Cond) (a1 : Addr) (h0 : Heap) (n0 : Nat) (Z0 : n0 ≤ h0.size) :
    MetFree l (⟨"java/lang/Record", "<init>", "()V"⟩ : MethodName) (head1 (Jvm.Cond.code (⟨"java/lang/Record", "<init>", "()V"⟩ : MethodName) jdk_30_method_1_code 1 none :: ws) ({ frames := 1, cells := 0, slots := 0, locals := 12 } : Room)) (fun a U => a = #[(.ref a1)] ∧ Z.Warmed39 U.vm ∧ U.heap = h0) (fun _ _ _ _ _ => True) (fun _ U o U' => ∃ v L, o = .returned v ∧ QrmR h0 n0 v U'.heap L ∧ FrameEnd U o U' L ({ frames := 1, cells := 0, slots := 0, locals := 12 } : Room).cells ({ frames := 1, cells := 0, slots := 0, locals := 12 } : Room).slots) := by
  refine MetFree.of_bodySF (plainFor_of_name own_pn_rmR) hisR ?_
  intro p e s m args below meth c s₁ Bd hml0 hP hK
  obtain ⟨hargs, hZ, hh⟩ := hP
  have hx := Bd.exec
  have hby := Bd.bytes
  have hml : c.maxLocals = 1 := hml0
  have hown : s.vm.findClass "java/lang/Record" = some m.cls := findClass_of_methodNamed Bd.named
  have hnm := (name_of_methodNamed Bd.named Bd.method).1
  have hlock : meth.locks = false := Bd.notSynchronized
  have hret0 := Bd.returns
  have X0 : Stand p l e ({ frames := 1, cells := 0, slots := 0, locals := 12 } : Room) s m args below meth c s₁ [] 0 0 := Stand.of_body Bd
  have e0 : s₁.heap = h0 := by rw [← hh, Bd.state]; rfl
  have N0 := Fr.nil n0
  have pre0 : ∀ t, Steps p.tables e below (s₁.setTop (mkF m 0 #[.val (.ref a1)] [])) t → Steps p.tables e below (s₁.setTop (entryFrame m args 1)) t := fun t k => castTop (by rw [hargs]; exact own_ef_rmR m a1) k
  clear Bd
  obtain ⟨T191, X191, e191, st191⟩ := initO X0 hx hZ hown (hw _ (List.mem_of_getElem? (i := 86) rfl)) (hw _ (List.mem_of_getElem? (i := 11) rfl)) (hw _ (List.mem_of_getElem? (i := 12) rfl)) e0 (g := (mkF m 1 #[.val (.ref a1)] [(.ref a1)])) rfl (by rw [hml]; rfl) rfl (hb hby d16_1) (by decide) (W := 0) (by show 2 * 0 + _ ≤ _; exact Nat.le_of_eq rfl) (by decide)
  obtain ⟨fs, hr, hrun, hended, hW, hsame⟩ := X191.leave (v := none) (fun _ => rfl)
  refine ⟨_, _, pre0 _ ?_, hrun, hended, _, _, rfl, ?_, ⟨_, rfl⟩, hW, hsame.mono (by decide) (by decide)⟩
  · show Steps p.tables e below (s₁.setTop (mkF m 0 #[.val (.ref a1)] [])) _
    refine XS.aloadN X0.here hx rfl (hb hby d16_0) rfl rfl ?_
    show Steps p.tables e below (s₁.setTop (mkF m 1 #[.val (.ref a1)] [(.ref a1)])) _
    refine st191 _ ?_
    show Steps p.tables e below (T191.setTop (mkF m 4 #[.val (.ref a1)] [])) _
    exact X191.returnOut hx hret0 (hb hby d16_4) hr
  · show QrmR h0 n0 _ T191.heap _
    rw [e191]
    exact ⟨rfl, N0, rfl⟩
def Fs (Z : State) (h : Heap) (a : Addr) (x1 : Value) (x2 : Value) (x3 : Value) (x4 : Value) (x5 : Value) (x6 : Value) (x7 : Value) : Prop := Exa Z h a "com/example/nosy_pool/nosypool/CheckoutStatistics" ∧ Fld Z h a "com/example/nosy_pool/nosypool/CheckoutStatistics" "count" "J" x1 ∧ Fld Z h a "com/example/nosy_pool/nosypool/CheckoutStatistics" "rolledBack" "J" x2 ∧ Fld Z h a "com/example/nosy_pool/nosypool/CheckoutStatistics" "holdP50Ms" "J" x3 ∧ Fld Z h a "com/example/nosy_pool/nosypool/CheckoutStatistics" "holdP99Ms" "J" x4 ∧ Fld Z h a "com/example/nosy_pool/nosypool/CheckoutStatistics" "busyP50Ms" "J" x5 ∧ Fld Z h a "com/example/nosy_pool/nosypool/CheckoutStatistics" "busyP99Ms" "J" x6 ∧ Fld Z h a "com/example/nosy_pool/nosypool/CheckoutStatistics" "busyRatio" "D" x7
theorem d15_0 : decode prog_3_method_1_code 0 = .ok (.aload_n 0, 1) := by decide +kernel
theorem d15_1 : decode prog_3_method_1_code 1 = .ok (.invokespecial 1, 3) := by decide +kernel
theorem d15_4 : decode prog_3_method_1_code 4 = .ok (.aload_n 0, 1) := by decide +kernel
theorem d15_5 : decode prog_3_method_1_code 5 = .ok (.lload_n 1, 1) := by decide +kernel
theorem d15_6 : decode prog_3_method_1_code 6 = .ok (.putfield 7, 3) := by decide +kernel
theorem d15_9 : decode prog_3_method_1_code 9 = .ok (.aload_n 0, 1) := by decide +kernel
theorem d15_10 : decode prog_3_method_1_code 10 = .ok (.lload_n 3, 1) := by decide +kernel
theorem d15_11 : decode prog_3_method_1_code 11 = .ok (.putfield 13, 3) := by decide +kernel
theorem d15_14 : decode prog_3_method_1_code 14 = .ok (.aload_n 0, 1) := by decide +kernel
theorem d15_15 : decode prog_3_method_1_code 15 = .ok (.lload 5, 2) := by decide +kernel
theorem d15_17 : decode prog_3_method_1_code 17 = .ok (.putfield 16, 3) := by decide +kernel
theorem d15_20 : decode prog_3_method_1_code 20 = .ok (.aload_n 0, 1) := by decide +kernel
theorem d15_21 : decode prog_3_method_1_code 21 = .ok (.lload 7, 2) := by decide +kernel
theorem d15_23 : decode prog_3_method_1_code 23 = .ok (.putfield 19, 3) := by decide +kernel
theorem d15_26 : decode prog_3_method_1_code 26 = .ok (.aload_n 0, 1) := by decide +kernel
theorem d15_27 : decode prog_3_method_1_code 27 = .ok (.lload 9, 2) := by decide +kernel
theorem d15_29 : decode prog_3_method_1_code 29 = .ok (.putfield 22, 3) := by decide +kernel
theorem d15_32 : decode prog_3_method_1_code 32 = .ok (.aload_n 0, 1) := by decide +kernel
theorem d15_33 : decode prog_3_method_1_code 33 = .ok (.lload 11, 2) := by decide +kernel
theorem d15_35 : decode prog_3_method_1_code 35 = .ok (.putfield 25, 3) := by decide +kernel
theorem d15_38 : decode prog_3_method_1_code 38 = .ok (.aload_n 0, 1) := by decide +kernel
theorem d15_39 : decode prog_3_method_1_code 39 = .ok (.dload 13, 2) := by decide +kernel
theorem d15_41 : decode prog_3_method_1_code 41 = .ok (.putfield 28, 3) := by decide +kernel
theorem d15_44 : decode prog_3_method_1_code 44 = .ok (.return_, 1) := by decide +kernel
def QrmCS (Z : State) (a1 : Addr) (p0 : Int64) (p1 : Int64) (p2 : Int64) (p3 : Int64) (p4 : Int64) (p5 : Int64) (p6 : UInt64) (h0 : Heap) (n0 : Nat) (v : Option Value) (h : Heap) (L : List Loc) : Prop := v = none ∧ Fr n0 L ∧ Keep h0 h [a1] ∧ Fs Z h a1 (.long p0) (.long p1) (.long p2) (.long p3) (.long p4) (.long p5) (.double p6)
theorem own_pn_rmCS : plainName "com/example/nosy_pool/nosypool/CheckoutStatistics" = true := by first | (simp [plainName, overriddenIn]; done) | decide +kernel
theorem own_ef_rmCS (m : MethodId) (a1 : Addr) (p0 : Int64) (p1 : Int64) (p2 : Int64) (p3 : Int64) (p4 : Int64) (p5 : Int64) (p6 : UInt64) : entryFrame m #[(.ref a1), (.long p0), (.long p1), (.long p2), (.long p3), (.long p4), (.long p5), (.double p6)] 15 = (mkF m 0 #[.val (.ref a1), .val (.long p0), .second, .val (.long p1), .second, .val (.long p2), .second, .val (.long p3), .second, .val (.long p4), .second, .val (.long p5), .second, .val (.double p6), .second] []) := by first | (simp [entryFrame, mkF, argsToLocals, Value.category]; done) | rfl
set_option maxRecDepth 65536 in
set_option maxHeartbeats 40000000 in
theorem rmCS (l : Launch) (Z : State) (a0 : Array Value) (hw : ∀ d ∈ tables_1, d.before a0 Z = true) (ws : List Jvm.Cond) (a1 : Addr) (p0 : Int64) (p1 : Int64) (p2 : Int64) (p3 : Int64) (p4 : Int64) (p5 : Int64) (p6 : UInt64) (u0 : Value) (u1 : Value) (u2 : Value) (u3 : Value) (u4 : Value) (u5 : Value) (u6 : Value) (h0 : Heap) (n0 : Nat) (Z0 : n0 ≤ h0.size) (ge1 : n0 ≤ a1) (F : Fs Z h0 a1 u0 u1 u2 u3 u4 u5 u6) :
    MetFree l (⟨"com/example/nosy_pool/nosypool/CheckoutStatistics", "<init>", "(JJJJJJD)V"⟩ : MethodName) (head1 (Jvm.Cond.code (⟨"com/example/nosy_pool/nosypool/CheckoutStatistics", "<init>", "(JJJJJJD)V"⟩ : MethodName) prog_3_method_1_code 15 none :: ws) ({ frames := 2, cells := 0, slots := 0, locals := 24 } : Room)) (fun a U => a = #[(.ref a1), (.long p0), (.long p1), (.long p2), (.long p3), (.long p4), (.long p5), (.double p6)] ∧ Z.Warmed39 U.vm ∧ U.heap = h0) (fun _ _ _ _ _ => True) (fun _ U o U' => ∃ v L, o = .returned v ∧ QrmCS Z a1 p0 p1 p2 p3 p4 p5 p6 h0 n0 v U'.heap L ∧ FrameEnd U o U' L ({ frames := 2, cells := 0, slots := 0, locals := 24 } : Room).cells ({ frames := 2, cells := 0, slots := 0, locals := 24 } : Room).slots) := by
  refine MetFree.of_bodySF (plainFor_of_name own_pn_rmCS) hisR ?_
  intro p e s m args below meth c s₁ Bd hml0 hP hK
  obtain ⟨hargs, hZ, hh⟩ := hP
  have hx := Bd.exec
  have hby := Bd.bytes
  have hml : c.maxLocals = 15 := hml0
  have hown : s.vm.findClass "com/example/nosy_pool/nosypool/CheckoutStatistics" = some m.cls := findClass_of_methodNamed Bd.named
  have hnm := (name_of_methodNamed Bd.named Bd.method).1
  have hlock : meth.locks = false := Bd.notSynchronized
  have hret0 := Bd.returns
  have X0 : Stand p l e ({ frames := 2, cells := 0, slots := 0, locals := 24 } : Room) s m args below meth c s₁ [] 0 0 := Stand.of_body Bd
  have e0 : s₁.heap = h0 := by rw [← hh, Bd.state]; rfl
  have N0 := Fr.nil n0
  have pre0 : ∀ t, Steps p.tables e below (s₁.setTop (mkF m 0 #[.val (.ref a1), .val (.long p0), .second, .val (.long p1), .second, .val (.long p2), .second, .val (.long p3), .second, .val (.long p4), .second, .val (.long p5), .second, .val (.double p6), .second] [])) t → Steps p.tables e below (s₁.setTop (entryFrame m args 15)) t := fun t k => castTop (by rw [hargs]; exact own_ef_rmCS m a1 p0 p1 p2 p3 p4 p5 p6) k
  clear Bd
  obtain ⟨Ex, F0, F1, F2, F3, F4, F5, F6⟩ := F
  obtain ⟨v192, vmx192, ⟨T192, L192, k192, n192⟩, -, X192, ⟨Lc192, hQ192, l192, y192, z192⟩, st192⟩ := X0.specialBack hx (y := (⟨"java/lang/Record", "<init>", "()V"⟩ : MethodName)) rfl hown (mvT hZ (hw _ (List.mem_of_getElem? (i := 81) rfl))) (mvT hZ (hw _ (List.mem_of_getElem? (i := 82) rfl))) (mvT hZ (hw _ (List.mem_of_getElem? (i := 85) rfl))) (by decide) (backOf (W := 0) (rmR l Z a0 hw [] a1 h0 n0 Z0) hZ (hw _ (List.mem_of_getElem? (i := 85) rfl)) (hw _ (List.mem_of_getElem? (i := 84) rfl)) (by decide) (by decide)) (g := (mkF m 1 #[.val (.ref a1), .val (.long p0), .second, .val (.long p1), .second, .val (.long p2), .second, .val (.long p3), .second, .val (.long p4), .second, .val (.long p5), .second, .val (.double p6), .second] [(.ref a1)])) rfl (by rw [hml]; rfl) (Steps.refl _) (a := a1) (argsL := []) (rest := []) (lenOf own_pd6 rfl) rfl (by show 2 * 0 + _ ≤ _; exact Nat.le_of_eq rfl) (hb hby d15_1) (fun _ _ => ⟨rfl, e0, (by decide : 0 + 0 ≤ _), (by decide : 0 + 0 ≤ _)⟩)
  dsimp only [Pt.U, Pt.locs, Pt.cells, Pt.slots] at X192 l192 y192 z192 st192 hQ192
  subst l192 y192 z192
  obtain ⟨rfl, Nq192, eh192⟩ := hQ192
  have N192 := Fr.app N0 Nq192
  obtain ⟨T193, h193, X193, e193, W193, st193⟩ := putF X192 hx hZ hown (host := "") (Or.inl (hw _ (List.mem_of_getElem? (i := 87) rfl))) Via.refl eh192 F0 Ex (Or.inr ⟨(hw _ (List.mem_of_getElem? (i := 88) rfl)), rfl, hnm⟩) (hw _ (List.mem_of_getElem? (i := 61) rfl)) (ty := .long) (by decide) rfl rfl (g := (mkF m 6 #[.val (.ref a1), .val (.long p0), .second, .val (.long p1), .second, .val (.long p2), .second, .val (.long p3), .second, .val (.long p4), .second, .val (.long p5), .second, .val (.double p6), .second] [(.long p0), (.ref a1)])) rfl rfl (hb hby d15_6)
  have Z194 : n0 ≤ h193.size := Nat.le_trans Z0 (Keep.of_wr W193).1
  have K195 : Keep h0 h193 [a1] := (Keep.refl h0 [a1]).wr W193 (Or.inl (List.mem_of_getElem? (i := 0) rfl))
  have N193 := Fr.snoc X193 N192 ge1
  have f196 := F0.same W193
  have f197 := (F1.other W193 (Or.inr (slot_ne (Or.inr (hw _ (List.mem_of_getElem? (i := 90) rfl))) (Or.inr (hw _ (List.mem_of_getElem? (i := 88) rfl))) (by decide) (t := .long) (t' := .long) (by decide) (by decide))))
  have f198 := (Ex.wr W193)
  obtain ⟨T199, h199, X199, e199, W199, st199⟩ := putF X193 hx hZ hown (host := "") (Or.inl (hw _ (List.mem_of_getElem? (i := 89) rfl))) Via.refl e193 f197 f198 (Or.inr ⟨(hw _ (List.mem_of_getElem? (i := 90) rfl)), rfl, hnm⟩) (hw _ (List.mem_of_getElem? (i := 61) rfl)) (ty := .long) (by decide) rfl rfl (g := (mkF m 11 #[.val (.ref a1), .val (.long p0), .second, .val (.long p1), .second, .val (.long p2), .second, .val (.long p3), .second, .val (.long p4), .second, .val (.long p5), .second, .val (.double p6), .second] [(.long p1), (.ref a1)])) rfl rfl (hb hby d15_11)
  have Z200 : n0 ≤ h199.size := Nat.le_trans Z194 (Keep.of_wr W199).1
  have K201 : Keep h0 h199 [a1] := K195.wr W199 (Or.inl (List.mem_of_getElem? (i := 0) rfl))
  have N199 := Fr.snoc X199 N193 ge1
  have f202 := f197.same W199
  have f203 := ((F2.other W193 (Or.inr (slot_ne (Or.inr (hw _ (List.mem_of_getElem? (i := 92) rfl))) (Or.inr (hw _ (List.mem_of_getElem? (i := 88) rfl))) (by decide) (t := .long) (t' := .long) (by decide) (by decide)))).other W199 (Or.inr (slot_ne (Or.inr (hw _ (List.mem_of_getElem? (i := 92) rfl))) (Or.inr (hw _ (List.mem_of_getElem? (i := 90) rfl))) (by decide) (t := .long) (t' := .long) (by decide) (by decide))))
  have f204 := (f198.wr W199)
  obtain ⟨T205, h205, X205, e205, W205, st205⟩ := putF X199 hx hZ hown (host := "") (Or.inl (hw _ (List.mem_of_getElem? (i := 91) rfl))) Via.refl e199 f203 f204 (Or.inr ⟨(hw _ (List.mem_of_getElem? (i := 92) rfl)), rfl, hnm⟩) (hw _ (List.mem_of_getElem? (i := 61) rfl)) (ty := .long) (by decide) rfl rfl (g := (mkF m 17 #[.val (.ref a1), .val (.long p0), .second, .val (.long p1), .second, .val (.long p2), .second, .val (.long p3), .second, .val (.long p4), .second, .val (.long p5), .second, .val (.double p6), .second] [(.long p2), (.ref a1)])) rfl rfl (hb hby d15_17)
  have Z206 : n0 ≤ h205.size := Nat.le_trans Z200 (Keep.of_wr W205).1
  have K207 : Keep h0 h205 [a1] := K201.wr W205 (Or.inl (List.mem_of_getElem? (i := 0) rfl))
  have N205 := Fr.snoc X205 N199 ge1
  have f208 := f203.same W205
  have f209 := (((F3.other W193 (Or.inr (slot_ne (Or.inr (hw _ (List.mem_of_getElem? (i := 94) rfl))) (Or.inr (hw _ (List.mem_of_getElem? (i := 88) rfl))) (by decide) (t := .long) (t' := .long) (by decide) (by decide)))).other W199 (Or.inr (slot_ne (Or.inr (hw _ (List.mem_of_getElem? (i := 94) rfl))) (Or.inr (hw _ (List.mem_of_getElem? (i := 90) rfl))) (by decide) (t := .long) (t' := .long) (by decide) (by decide)))).other W205 (Or.inr (slot_ne (Or.inr (hw _ (List.mem_of_getElem? (i := 94) rfl))) (Or.inr (hw _ (List.mem_of_getElem? (i := 92) rfl))) (by decide) (t := .long) (t' := .long) (by decide) (by decide))))
  have f210 := (f204.wr W205)
  obtain ⟨T211, h211, X211, e211, W211, st211⟩ := putF X205 hx hZ hown (host := "") (Or.inl (hw _ (List.mem_of_getElem? (i := 93) rfl))) Via.refl e205 f209 f210 (Or.inr ⟨(hw _ (List.mem_of_getElem? (i := 94) rfl)), rfl, hnm⟩) (hw _ (List.mem_of_getElem? (i := 61) rfl)) (ty := .long) (by decide) rfl rfl (g := (mkF m 23 #[.val (.ref a1), .val (.long p0), .second, .val (.long p1), .second, .val (.long p2), .second, .val (.long p3), .second, .val (.long p4), .second, .val (.long p5), .second, .val (.double p6), .second] [(.long p3), (.ref a1)])) rfl rfl (hb hby d15_23)
  have Z212 : n0 ≤ h211.size := Nat.le_trans Z206 (Keep.of_wr W211).1
  have K213 : Keep h0 h211 [a1] := K207.wr W211 (Or.inl (List.mem_of_getElem? (i := 0) rfl))
  have N211 := Fr.snoc X211 N205 ge1
  have f214 := f209.same W211
  have f215 := ((((F4.other W193 (Or.inr (slot_ne (Or.inr (hw _ (List.mem_of_getElem? (i := 96) rfl))) (Or.inr (hw _ (List.mem_of_getElem? (i := 88) rfl))) (by decide) (t := .long) (t' := .long) (by decide) (by decide)))).other W199 (Or.inr (slot_ne (Or.inr (hw _ (List.mem_of_getElem? (i := 96) rfl))) (Or.inr (hw _ (List.mem_of_getElem? (i := 90) rfl))) (by decide) (t := .long) (t' := .long) (by decide) (by decide)))).other W205 (Or.inr (slot_ne (Or.inr (hw _ (List.mem_of_getElem? (i := 96) rfl))) (Or.inr (hw _ (List.mem_of_getElem? (i := 92) rfl))) (by decide) (t := .long) (t' := .long) (by decide) (by decide)))).other W211 (Or.inr (slot_ne (Or.inr (hw _ (List.mem_of_getElem? (i := 96) rfl))) (Or.inr (hw _ (List.mem_of_getElem? (i := 94) rfl))) (by decide) (t := .long) (t' := .long) (by decide) (by decide))))
  have f216 := (f210.wr W211)
  obtain ⟨T217, h217, X217, e217, W217, st217⟩ := putF X211 hx hZ hown (host := "") (Or.inl (hw _ (List.mem_of_getElem? (i := 95) rfl))) Via.refl e211 f215 f216 (Or.inr ⟨(hw _ (List.mem_of_getElem? (i := 96) rfl)), rfl, hnm⟩) (hw _ (List.mem_of_getElem? (i := 61) rfl)) (ty := .long) (by decide) rfl rfl (g := (mkF m 29 #[.val (.ref a1), .val (.long p0), .second, .val (.long p1), .second, .val (.long p2), .second, .val (.long p3), .second, .val (.long p4), .second, .val (.long p5), .second, .val (.double p6), .second] [(.long p4), (.ref a1)])) rfl rfl (hb hby d15_29)
  have Z218 : n0 ≤ h217.size := Nat.le_trans Z212 (Keep.of_wr W217).1
  have K219 : Keep h0 h217 [a1] := K213.wr W217 (Or.inl (List.mem_of_getElem? (i := 0) rfl))
  have N217 := Fr.snoc X217 N211 ge1
  have f220 := f215.same W217
  have f221 := (((((F5.other W193 (Or.inr (slot_ne (Or.inr (hw _ (List.mem_of_getElem? (i := 98) rfl))) (Or.inr (hw _ (List.mem_of_getElem? (i := 88) rfl))) (by decide) (t := .long) (t' := .long) (by decide) (by decide)))).other W199 (Or.inr (slot_ne (Or.inr (hw _ (List.mem_of_getElem? (i := 98) rfl))) (Or.inr (hw _ (List.mem_of_getElem? (i := 90) rfl))) (by decide) (t := .long) (t' := .long) (by decide) (by decide)))).other W205 (Or.inr (slot_ne (Or.inr (hw _ (List.mem_of_getElem? (i := 98) rfl))) (Or.inr (hw _ (List.mem_of_getElem? (i := 92) rfl))) (by decide) (t := .long) (t' := .long) (by decide) (by decide)))).other W211 (Or.inr (slot_ne (Or.inr (hw _ (List.mem_of_getElem? (i := 98) rfl))) (Or.inr (hw _ (List.mem_of_getElem? (i := 94) rfl))) (by decide) (t := .long) (t' := .long) (by decide) (by decide)))).other W217 (Or.inr (slot_ne (Or.inr (hw _ (List.mem_of_getElem? (i := 98) rfl))) (Or.inr (hw _ (List.mem_of_getElem? (i := 96) rfl))) (by decide) (t := .long) (t' := .long) (by decide) (by decide))))
  have f222 := (f216.wr W217)
  obtain ⟨T223, h223, X223, e223, W223, st223⟩ := putF X217 hx hZ hown (host := "") (Or.inl (hw _ (List.mem_of_getElem? (i := 97) rfl))) Via.refl e217 f221 f222 (Or.inr ⟨(hw _ (List.mem_of_getElem? (i := 98) rfl)), rfl, hnm⟩) (hw _ (List.mem_of_getElem? (i := 61) rfl)) (ty := .long) (by decide) rfl rfl (g := (mkF m 35 #[.val (.ref a1), .val (.long p0), .second, .val (.long p1), .second, .val (.long p2), .second, .val (.long p3), .second, .val (.long p4), .second, .val (.long p5), .second, .val (.double p6), .second] [(.long p5), (.ref a1)])) rfl rfl (hb hby d15_35)
  have Z224 : n0 ≤ h223.size := Nat.le_trans Z218 (Keep.of_wr W223).1
  have K225 : Keep h0 h223 [a1] := K219.wr W223 (Or.inl (List.mem_of_getElem? (i := 0) rfl))
  have N223 := Fr.snoc X223 N217 ge1
  have f226 := f221.same W223
  have f227 := ((((((F6.other W193 (Or.inr (slot_ne (Or.inr (hw _ (List.mem_of_getElem? (i := 100) rfl))) (Or.inr (hw _ (List.mem_of_getElem? (i := 88) rfl))) (by decide) (t := .double) (t' := .long) (by decide) (by decide)))).other W199 (Or.inr (slot_ne (Or.inr (hw _ (List.mem_of_getElem? (i := 100) rfl))) (Or.inr (hw _ (List.mem_of_getElem? (i := 90) rfl))) (by decide) (t := .double) (t' := .long) (by decide) (by decide)))).other W205 (Or.inr (slot_ne (Or.inr (hw _ (List.mem_of_getElem? (i := 100) rfl))) (Or.inr (hw _ (List.mem_of_getElem? (i := 92) rfl))) (by decide) (t := .double) (t' := .long) (by decide) (by decide)))).other W211 (Or.inr (slot_ne (Or.inr (hw _ (List.mem_of_getElem? (i := 100) rfl))) (Or.inr (hw _ (List.mem_of_getElem? (i := 94) rfl))) (by decide) (t := .double) (t' := .long) (by decide) (by decide)))).other W217 (Or.inr (slot_ne (Or.inr (hw _ (List.mem_of_getElem? (i := 100) rfl))) (Or.inr (hw _ (List.mem_of_getElem? (i := 96) rfl))) (by decide) (t := .double) (t' := .long) (by decide) (by decide)))).other W223 (Or.inr (slot_ne (Or.inr (hw _ (List.mem_of_getElem? (i := 100) rfl))) (Or.inr (hw _ (List.mem_of_getElem? (i := 98) rfl))) (by decide) (t := .double) (t' := .long) (by decide) (by decide))))
  have f228 := (f222.wr W223)
  obtain ⟨T229, h229, X229, e229, W229, st229⟩ := putF X223 hx hZ hown (host := "") (Or.inl (hw _ (List.mem_of_getElem? (i := 99) rfl))) Via.refl e223 f227 f228 (Or.inr ⟨(hw _ (List.mem_of_getElem? (i := 100) rfl)), rfl, hnm⟩) (hw _ (List.mem_of_getElem? (i := 61) rfl)) (ty := .double) (by decide) rfl rfl (g := (mkF m 41 #[.val (.ref a1), .val (.long p0), .second, .val (.long p1), .second, .val (.long p2), .second, .val (.long p3), .second, .val (.long p4), .second, .val (.long p5), .second, .val (.double p6), .second] [(.double p6), (.ref a1)])) rfl rfl (hb hby d15_41)
  have Z230 : n0 ≤ h229.size := Nat.le_trans Z224 (Keep.of_wr W229).1
  have K231 : Keep h0 h229 [a1] := K225.wr W229 (Or.inl (List.mem_of_getElem? (i := 0) rfl))
  have N229 := Fr.snoc X229 N223 ge1
  have f232 := f227.same W229
  have f233 := (f228.wr W229)
  have f234 := ((((((f196.other W199 (Or.inr (slot_ne (Or.inr (hw _ (List.mem_of_getElem? (i := 88) rfl))) (Or.inr (hw _ (List.mem_of_getElem? (i := 90) rfl))) (by decide) (t := .long) (t' := .long) (by decide) (by decide)))).other W205 (Or.inr (slot_ne (Or.inr (hw _ (List.mem_of_getElem? (i := 88) rfl))) (Or.inr (hw _ (List.mem_of_getElem? (i := 92) rfl))) (by decide) (t := .long) (t' := .long) (by decide) (by decide)))).other W211 (Or.inr (slot_ne (Or.inr (hw _ (List.mem_of_getElem? (i := 88) rfl))) (Or.inr (hw _ (List.mem_of_getElem? (i := 94) rfl))) (by decide) (t := .long) (t' := .long) (by decide) (by decide)))).other W217 (Or.inr (slot_ne (Or.inr (hw _ (List.mem_of_getElem? (i := 88) rfl))) (Or.inr (hw _ (List.mem_of_getElem? (i := 96) rfl))) (by decide) (t := .long) (t' := .long) (by decide) (by decide)))).other W223 (Or.inr (slot_ne (Or.inr (hw _ (List.mem_of_getElem? (i := 88) rfl))) (Or.inr (hw _ (List.mem_of_getElem? (i := 98) rfl))) (by decide) (t := .long) (t' := .long) (by decide) (by decide)))).other W229 (Or.inr (slot_ne (Or.inr (hw _ (List.mem_of_getElem? (i := 88) rfl))) (Or.inr (hw _ (List.mem_of_getElem? (i := 100) rfl))) (by decide) (t := .long) (t' := .double) (by decide) (by decide))))
  have f235 := (((((f202.other W205 (Or.inr (slot_ne (Or.inr (hw _ (List.mem_of_getElem? (i := 90) rfl))) (Or.inr (hw _ (List.mem_of_getElem? (i := 92) rfl))) (by decide) (t := .long) (t' := .long) (by decide) (by decide)))).other W211 (Or.inr (slot_ne (Or.inr (hw _ (List.mem_of_getElem? (i := 90) rfl))) (Or.inr (hw _ (List.mem_of_getElem? (i := 94) rfl))) (by decide) (t := .long) (t' := .long) (by decide) (by decide)))).other W217 (Or.inr (slot_ne (Or.inr (hw _ (List.mem_of_getElem? (i := 90) rfl))) (Or.inr (hw _ (List.mem_of_getElem? (i := 96) rfl))) (by decide) (t := .long) (t' := .long) (by decide) (by decide)))).other W223 (Or.inr (slot_ne (Or.inr (hw _ (List.mem_of_getElem? (i := 90) rfl))) (Or.inr (hw _ (List.mem_of_getElem? (i := 98) rfl))) (by decide) (t := .long) (t' := .long) (by decide) (by decide)))).other W229 (Or.inr (slot_ne (Or.inr (hw _ (List.mem_of_getElem? (i := 90) rfl))) (Or.inr (hw _ (List.mem_of_getElem? (i := 100) rfl))) (by decide) (t := .long) (t' := .double) (by decide) (by decide))))
  have f236 := ((((f208.other W211 (Or.inr (slot_ne (Or.inr (hw _ (List.mem_of_getElem? (i := 92) rfl))) (Or.inr (hw _ (List.mem_of_getElem? (i := 94) rfl))) (by decide) (t := .long) (t' := .long) (by decide) (by decide)))).other W217 (Or.inr (slot_ne (Or.inr (hw _ (List.mem_of_getElem? (i := 92) rfl))) (Or.inr (hw _ (List.mem_of_getElem? (i := 96) rfl))) (by decide) (t := .long) (t' := .long) (by decide) (by decide)))).other W223 (Or.inr (slot_ne (Or.inr (hw _ (List.mem_of_getElem? (i := 92) rfl))) (Or.inr (hw _ (List.mem_of_getElem? (i := 98) rfl))) (by decide) (t := .long) (t' := .long) (by decide) (by decide)))).other W229 (Or.inr (slot_ne (Or.inr (hw _ (List.mem_of_getElem? (i := 92) rfl))) (Or.inr (hw _ (List.mem_of_getElem? (i := 100) rfl))) (by decide) (t := .long) (t' := .double) (by decide) (by decide))))
  have f237 := (((f214.other W217 (Or.inr (slot_ne (Or.inr (hw _ (List.mem_of_getElem? (i := 94) rfl))) (Or.inr (hw _ (List.mem_of_getElem? (i := 96) rfl))) (by decide) (t := .long) (t' := .long) (by decide) (by decide)))).other W223 (Or.inr (slot_ne (Or.inr (hw _ (List.mem_of_getElem? (i := 94) rfl))) (Or.inr (hw _ (List.mem_of_getElem? (i := 98) rfl))) (by decide) (t := .long) (t' := .long) (by decide) (by decide)))).other W229 (Or.inr (slot_ne (Or.inr (hw _ (List.mem_of_getElem? (i := 94) rfl))) (Or.inr (hw _ (List.mem_of_getElem? (i := 100) rfl))) (by decide) (t := .long) (t' := .double) (by decide) (by decide))))
  have f238 := ((f220.other W223 (Or.inr (slot_ne (Or.inr (hw _ (List.mem_of_getElem? (i := 96) rfl))) (Or.inr (hw _ (List.mem_of_getElem? (i := 98) rfl))) (by decide) (t := .long) (t' := .long) (by decide) (by decide)))).other W229 (Or.inr (slot_ne (Or.inr (hw _ (List.mem_of_getElem? (i := 96) rfl))) (Or.inr (hw _ (List.mem_of_getElem? (i := 100) rfl))) (by decide) (t := .long) (t' := .double) (by decide) (by decide))))
  have f239 := (f226.other W229 (Or.inr (slot_ne (Or.inr (hw _ (List.mem_of_getElem? (i := 98) rfl))) (Or.inr (hw _ (List.mem_of_getElem? (i := 100) rfl))) (by decide) (t := .long) (t' := .double) (by decide) (by decide))))
  obtain ⟨fs, hr, hrun, hended, hW, hsame⟩ := X229.leave (v := none) (fun _ => rfl)
  refine ⟨_, _, pre0 _ ?_, hrun, hended, _, _, rfl, ?_, ⟨_, rfl⟩, hW, hsame.mono (by decide) (by decide)⟩
  · show Steps p.tables e below (s₁.setTop (mkF m 0 #[.val (.ref a1), .val (.long p0), .second, .val (.long p1), .second, .val (.long p2), .second, .val (.long p3), .second, .val (.long p4), .second, .val (.long p5), .second, .val (.double p6), .second] [])) _
    refine XS.aloadN X0.here hx rfl (hb hby d15_0) rfl rfl ?_
    show Steps p.tables e below (s₁.setTop (mkF m 1 #[.val (.ref a1), .val (.long p0), .second, .val (.long p1), .second, .val (.long p2), .second, .val (.long p3), .second, .val (.long p4), .second, .val (.long p5), .second, .val (.double p6), .second] [(.ref a1)])) _
    refine st192.trans ?_
    show Steps p.tables e below (T192.setTop (mkF m 4 #[.val (.ref a1), .val (.long p0), .second, .val (.long p1), .second, .val (.long p2), .second, .val (.long p3), .second, .val (.long p4), .second, .val (.long p5), .second, .val (.double p6), .second] [])) _
    refine XS.aloadN X192.here hx rfl (hb hby d15_4) rfl rfl ?_
    show Steps p.tables e below (T192.setTop (mkF m 5 #[.val (.ref a1), .val (.long p0), .second, .val (.long p1), .second, .val (.long p2), .second, .val (.long p3), .second, .val (.long p4), .second, .val (.long p5), .second, .val (.double p6), .second] [(.ref a1)])) _
    refine XS.lloadN X192.here hx rfl (hb hby d15_5) rfl ?_
    show Steps p.tables e below (T192.setTop (mkF m 6 #[.val (.ref a1), .val (.long p0), .second, .val (.long p1), .second, .val (.long p2), .second, .val (.long p3), .second, .val (.long p4), .second, .val (.long p5), .second, .val (.double p6), .second] [(.long p0), (.ref a1)])) _
    refine st193 _ ?_
    show Steps p.tables e below (T193.setTop (mkF m 9 #[.val (.ref a1), .val (.long p0), .second, .val (.long p1), .second, .val (.long p2), .second, .val (.long p3), .second, .val (.long p4), .second, .val (.long p5), .second, .val (.double p6), .second] [])) _
    refine XS.aloadN X193.here hx rfl (hb hby d15_9) rfl rfl ?_
    show Steps p.tables e below (T193.setTop (mkF m 10 #[.val (.ref a1), .val (.long p0), .second, .val (.long p1), .second, .val (.long p2), .second, .val (.long p3), .second, .val (.long p4), .second, .val (.long p5), .second, .val (.double p6), .second] [(.ref a1)])) _
    refine XS.lloadN X193.here hx rfl (hb hby d15_10) rfl ?_
    show Steps p.tables e below (T193.setTop (mkF m 11 #[.val (.ref a1), .val (.long p0), .second, .val (.long p1), .second, .val (.long p2), .second, .val (.long p3), .second, .val (.long p4), .second, .val (.long p5), .second, .val (.double p6), .second] [(.long p1), (.ref a1)])) _
    refine st199 _ ?_
    show Steps p.tables e below (T199.setTop (mkF m 14 #[.val (.ref a1), .val (.long p0), .second, .val (.long p1), .second, .val (.long p2), .second, .val (.long p3), .second, .val (.long p4), .second, .val (.long p5), .second, .val (.double p6), .second] [])) _
    refine XS.aloadN X199.here hx rfl (hb hby d15_14) rfl rfl ?_
    show Steps p.tables e below (T199.setTop (mkF m 15 #[.val (.ref a1), .val (.long p0), .second, .val (.long p1), .second, .val (.long p2), .second, .val (.long p3), .second, .val (.long p4), .second, .val (.long p5), .second, .val (.double p6), .second] [(.ref a1)])) _
    refine XS.lload X199.here hx rfl (hb hby d15_15) rfl ?_
    show Steps p.tables e below (T199.setTop (mkF m 17 #[.val (.ref a1), .val (.long p0), .second, .val (.long p1), .second, .val (.long p2), .second, .val (.long p3), .second, .val (.long p4), .second, .val (.long p5), .second, .val (.double p6), .second] [(.long p2), (.ref a1)])) _
    refine st205 _ ?_
    show Steps p.tables e below (T205.setTop (mkF m 20 #[.val (.ref a1), .val (.long p0), .second, .val (.long p1), .second, .val (.long p2), .second, .val (.long p3), .second, .val (.long p4), .second, .val (.long p5), .second, .val (.double p6), .second] [])) _
    refine XS.aloadN X205.here hx rfl (hb hby d15_20) rfl rfl ?_
    show Steps p.tables e below (T205.setTop (mkF m 21 #[.val (.ref a1), .val (.long p0), .second, .val (.long p1), .second, .val (.long p2), .second, .val (.long p3), .second, .val (.long p4), .second, .val (.long p5), .second, .val (.double p6), .second] [(.ref a1)])) _
    refine XS.lload X205.here hx rfl (hb hby d15_21) rfl ?_
    show Steps p.tables e below (T205.setTop (mkF m 23 #[.val (.ref a1), .val (.long p0), .second, .val (.long p1), .second, .val (.long p2), .second, .val (.long p3), .second, .val (.long p4), .second, .val (.long p5), .second, .val (.double p6), .second] [(.long p3), (.ref a1)])) _
    refine st211 _ ?_
    show Steps p.tables e below (T211.setTop (mkF m 26 #[.val (.ref a1), .val (.long p0), .second, .val (.long p1), .second, .val (.long p2), .second, .val (.long p3), .second, .val (.long p4), .second, .val (.long p5), .second, .val (.double p6), .second] [])) _
    refine XS.aloadN X211.here hx rfl (hb hby d15_26) rfl rfl ?_
    show Steps p.tables e below (T211.setTop (mkF m 27 #[.val (.ref a1), .val (.long p0), .second, .val (.long p1), .second, .val (.long p2), .second, .val (.long p3), .second, .val (.long p4), .second, .val (.long p5), .second, .val (.double p6), .second] [(.ref a1)])) _
    refine XS.lload X211.here hx rfl (hb hby d15_27) rfl ?_
    show Steps p.tables e below (T211.setTop (mkF m 29 #[.val (.ref a1), .val (.long p0), .second, .val (.long p1), .second, .val (.long p2), .second, .val (.long p3), .second, .val (.long p4), .second, .val (.long p5), .second, .val (.double p6), .second] [(.long p4), (.ref a1)])) _
    refine st217 _ ?_
    show Steps p.tables e below (T217.setTop (mkF m 32 #[.val (.ref a1), .val (.long p0), .second, .val (.long p1), .second, .val (.long p2), .second, .val (.long p3), .second, .val (.long p4), .second, .val (.long p5), .second, .val (.double p6), .second] [])) _
    refine XS.aloadN X217.here hx rfl (hb hby d15_32) rfl rfl ?_
    show Steps p.tables e below (T217.setTop (mkF m 33 #[.val (.ref a1), .val (.long p0), .second, .val (.long p1), .second, .val (.long p2), .second, .val (.long p3), .second, .val (.long p4), .second, .val (.long p5), .second, .val (.double p6), .second] [(.ref a1)])) _
    refine XS.lload X217.here hx rfl (hb hby d15_33) rfl ?_
    show Steps p.tables e below (T217.setTop (mkF m 35 #[.val (.ref a1), .val (.long p0), .second, .val (.long p1), .second, .val (.long p2), .second, .val (.long p3), .second, .val (.long p4), .second, .val (.long p5), .second, .val (.double p6), .second] [(.long p5), (.ref a1)])) _
    refine st223 _ ?_
    show Steps p.tables e below (T223.setTop (mkF m 38 #[.val (.ref a1), .val (.long p0), .second, .val (.long p1), .second, .val (.long p2), .second, .val (.long p3), .second, .val (.long p4), .second, .val (.long p5), .second, .val (.double p6), .second] [])) _
    refine XS.aloadN X223.here hx rfl (hb hby d15_38) rfl rfl ?_
    show Steps p.tables e below (T223.setTop (mkF m 39 #[.val (.ref a1), .val (.long p0), .second, .val (.long p1), .second, .val (.long p2), .second, .val (.long p3), .second, .val (.long p4), .second, .val (.long p5), .second, .val (.double p6), .second] [(.ref a1)])) _
    refine XS.dload X223.here hx rfl (hb hby d15_39) rfl ?_
    show Steps p.tables e below (T223.setTop (mkF m 41 #[.val (.ref a1), .val (.long p0), .second, .val (.long p1), .second, .val (.long p2), .second, .val (.long p3), .second, .val (.long p4), .second, .val (.long p5), .second, .val (.double p6), .second] [(.double p6), (.ref a1)])) _
    refine st229 _ ?_
    show Steps p.tables e below (T229.setTop (mkF m 44 #[.val (.ref a1), .val (.long p0), .second, .val (.long p1), .second, .val (.long p2), .second, .val (.long p3), .second, .val (.long p4), .second, .val (.long p5), .second, .val (.double p6), .second] [])) _
    exact X229.returnOut hx hret0 (hb hby d15_44) hr
  · show QrmCS Z a1 p0 p1 p2 p3 p4 p5 p6 h0 n0 _ T229.heap _
    rw [e229]
    exact ⟨rfl, N229, K231, f233, f234, f235, f236, f237, f238, f239, f232⟩
theorem d17_0 : decode prog_3_method_5_code 0 = .ok (.aload_n 0, 1) := by decide +kernel
theorem d17_1 : decode prog_3_method_5_code 1 = .ok (.getfield 7, 3) := by decide +kernel
theorem d17_4 : decode prog_3_method_5_code 4 = .ok (.lreturn, 1) := by decide +kernel
def QrmG_count (w : Int64) (h0 : Heap) (n0 : Nat) (v : Option Value) (h : Heap) (L : List Loc) : Prop := v = some (.long w) ∧ Fr n0 L ∧ h = h0
theorem own_pn_rmG_count : plainName "com/example/nosy_pool/nosypool/CheckoutStatistics" = true := by first | (simp [plainName, overriddenIn]; done) | decide +kernel
theorem own_ef_rmG_count (m : MethodId) (a1 : Addr) : entryFrame m #[(.ref a1)] 1 = (mkF m 0 #[.val (.ref a1)] []) := by first | (simp [entryFrame, mkF, argsToLocals, Value.category]; done) | rfl
set_option maxRecDepth 65536 in
set_option maxHeartbeats 40000000 in
theorem rmG_count (l : Launch) (Z : State) (a0 : Array Value) (hw : ∀ d ∈ tables_1, d.before a0 Z = true) (ws : List Jvm.Cond) (a1 : Addr) (w : Int64) (h0 : Heap) (n0 : Nat) (Z0 : n0 ≤ h0.size) (F : Fld Z h0 a1 "com/example/nosy_pool/nosypool/CheckoutStatistics" "count" "J" (.long w)) :
    MetFree l (⟨"com/example/nosy_pool/nosypool/CheckoutStatistics", "count", "()J"⟩ : MethodName) (head1 (Jvm.Cond.code (⟨"com/example/nosy_pool/nosypool/CheckoutStatistics", "count", "()J"⟩ : MethodName) prog_3_method_5_code 1 (some .long) :: ws) ({ frames := 0, cells := 0, slots := 0, locals := 0 } : Room)) (fun a U => a = #[(.ref a1)] ∧ Z.Warmed39 U.vm ∧ U.heap = h0) (fun _ _ _ _ _ => True) (fun _ U o U' => ∃ v L, o = .returned v ∧ QrmG_count w h0 n0 v U'.heap L ∧ FrameEnd U o U' L ({ frames := 0, cells := 0, slots := 0, locals := 0 } : Room).cells ({ frames := 0, cells := 0, slots := 0, locals := 0 } : Room).slots) := by
  refine MetFree.of_bodySF (plainFor_of_name own_pn_rmG_count) hisR ?_
  intro p e s m args below meth c s₁ Bd hml0 hP hK
  obtain ⟨hargs, hZ, hh⟩ := hP
  have hx := Bd.exec
  have hby := Bd.bytes
  have hml : c.maxLocals = 1 := hml0
  have hown : s.vm.findClass "com/example/nosy_pool/nosypool/CheckoutStatistics" = some m.cls := findClass_of_methodNamed Bd.named
  have hnm := (name_of_methodNamed Bd.named Bd.method).1
  have hlock : meth.locks = false := Bd.notSynchronized
  have hret0 := Bd.returns
  have X0 : Stand p l e ({ frames := 0, cells := 0, slots := 0, locals := 0 } : Room) s m args below meth c s₁ [] 0 0 := Stand.of_body Bd
  have e0 : s₁.heap = h0 := by rw [← hh, Bd.state]; rfl
  have N0 := Fr.nil n0
  have pre0 : ∀ t, Steps p.tables e below (s₁.setTop (mkF m 0 #[.val (.ref a1)] [])) t → Steps p.tables e below (s₁.setTop (entryFrame m args 1)) t := fun t k => castTop (by rw [hargs]; exact own_ef_rmG_count m a1) k
  clear Bd
  obtain ⟨T240, X240, e240, st240⟩ := getF X0 hx hZ hown (host := "") (Or.inl (hw _ (List.mem_of_getElem? (i := 87) rfl))) Via.refl e0 F (g := (mkF m 1 #[.val (.ref a1)] [(.ref a1)])) rfl rfl (hb hby d17_1)
  obtain ⟨fs, hr, hrun, hended, hW, hsame⟩ := X240.leave (v := some (.long w)) (fun h => by rw [hret0] at h; cases h)
  refine ⟨_, _, pre0 _ ?_, hrun, hended, _, _, rfl, ?_, ⟨_, rfl⟩, hW, hsame.mono (by decide) (by decide)⟩
  · show Steps p.tables e below (s₁.setTop (mkF m 0 #[.val (.ref a1)] [])) _
    refine XS.aloadN X0.here hx rfl (hb hby d17_0) rfl rfl ?_
    show Steps p.tables e below (s₁.setTop (mkF m 1 #[.val (.ref a1)] [(.ref a1)])) _
    refine st240 _ ?_
    show Steps p.tables e below (T240.setTop (mkF m 4 #[.val (.ref a1)] [(.long w)])) _
    exact retJ X240 hx hret0 (hb hby d17_4) hr
  · show QrmG_count w h0 n0 _ T240.heap _
    rw [e240]
    exact ⟨rfl, N0, rfl⟩
theorem d18_0 : decode prog_3_method_6_code 0 = .ok (.aload_n 0, 1) := by decide +kernel
theorem d18_1 : decode prog_3_method_6_code 1 = .ok (.getfield 13, 3) := by decide +kernel
theorem d18_4 : decode prog_3_method_6_code 4 = .ok (.lreturn, 1) := by decide +kernel
def QrmG_rolledBack (w : Int64) (h0 : Heap) (n0 : Nat) (v : Option Value) (h : Heap) (L : List Loc) : Prop := v = some (.long w) ∧ Fr n0 L ∧ h = h0
theorem own_pn_rmG_rolledBack : plainName "com/example/nosy_pool/nosypool/CheckoutStatistics" = true := by first | (simp [plainName, overriddenIn]; done) | decide +kernel
theorem own_ef_rmG_rolledBack (m : MethodId) (a1 : Addr) : entryFrame m #[(.ref a1)] 1 = (mkF m 0 #[.val (.ref a1)] []) := by first | (simp [entryFrame, mkF, argsToLocals, Value.category]; done) | rfl
set_option maxRecDepth 65536 in
set_option maxHeartbeats 40000000 in
theorem rmG_rolledBack (l : Launch) (Z : State) (a0 : Array Value) (hw : ∀ d ∈ tables_1, d.before a0 Z = true) (ws : List Jvm.Cond) (a1 : Addr) (w : Int64) (h0 : Heap) (n0 : Nat) (Z0 : n0 ≤ h0.size) (F : Fld Z h0 a1 "com/example/nosy_pool/nosypool/CheckoutStatistics" "rolledBack" "J" (.long w)) :
    MetFree l (⟨"com/example/nosy_pool/nosypool/CheckoutStatistics", "rolledBack", "()J"⟩ : MethodName) (head1 (Jvm.Cond.code (⟨"com/example/nosy_pool/nosypool/CheckoutStatistics", "rolledBack", "()J"⟩ : MethodName) prog_3_method_6_code 1 (some .long) :: ws) ({ frames := 0, cells := 0, slots := 0, locals := 0 } : Room)) (fun a U => a = #[(.ref a1)] ∧ Z.Warmed39 U.vm ∧ U.heap = h0) (fun _ _ _ _ _ => True) (fun _ U o U' => ∃ v L, o = .returned v ∧ QrmG_rolledBack w h0 n0 v U'.heap L ∧ FrameEnd U o U' L ({ frames := 0, cells := 0, slots := 0, locals := 0 } : Room).cells ({ frames := 0, cells := 0, slots := 0, locals := 0 } : Room).slots) := by
  refine MetFree.of_bodySF (plainFor_of_name own_pn_rmG_rolledBack) hisR ?_
  intro p e s m args below meth c s₁ Bd hml0 hP hK
  obtain ⟨hargs, hZ, hh⟩ := hP
  have hx := Bd.exec
  have hby := Bd.bytes
  have hml : c.maxLocals = 1 := hml0
  have hown : s.vm.findClass "com/example/nosy_pool/nosypool/CheckoutStatistics" = some m.cls := findClass_of_methodNamed Bd.named
  have hnm := (name_of_methodNamed Bd.named Bd.method).1
  have hlock : meth.locks = false := Bd.notSynchronized
  have hret0 := Bd.returns
  have X0 : Stand p l e ({ frames := 0, cells := 0, slots := 0, locals := 0 } : Room) s m args below meth c s₁ [] 0 0 := Stand.of_body Bd
  have e0 : s₁.heap = h0 := by rw [← hh, Bd.state]; rfl
  have N0 := Fr.nil n0
  have pre0 : ∀ t, Steps p.tables e below (s₁.setTop (mkF m 0 #[.val (.ref a1)] [])) t → Steps p.tables e below (s₁.setTop (entryFrame m args 1)) t := fun t k => castTop (by rw [hargs]; exact own_ef_rmG_rolledBack m a1) k
  clear Bd
  obtain ⟨T241, X241, e241, st241⟩ := getF X0 hx hZ hown (host := "") (Or.inl (hw _ (List.mem_of_getElem? (i := 89) rfl))) Via.refl e0 F (g := (mkF m 1 #[.val (.ref a1)] [(.ref a1)])) rfl rfl (hb hby d18_1)
  obtain ⟨fs, hr, hrun, hended, hW, hsame⟩ := X241.leave (v := some (.long w)) (fun h => by rw [hret0] at h; cases h)
  refine ⟨_, _, pre0 _ ?_, hrun, hended, _, _, rfl, ?_, ⟨_, rfl⟩, hW, hsame.mono (by decide) (by decide)⟩
  · show Steps p.tables e below (s₁.setTop (mkF m 0 #[.val (.ref a1)] [])) _
    refine XS.aloadN X0.here hx rfl (hb hby d18_0) rfl rfl ?_
    show Steps p.tables e below (s₁.setTop (mkF m 1 #[.val (.ref a1)] [(.ref a1)])) _
    refine st241 _ ?_
    show Steps p.tables e below (T241.setTop (mkF m 4 #[.val (.ref a1)] [(.long w)])) _
    exact retJ X241 hx hret0 (hb hby d18_4) hr
  · show QrmG_rolledBack w h0 n0 _ T241.heap _
    rw [e241]
    exact ⟨rfl, N0, rfl⟩
theorem d19_0 : decode prog_3_method_7_code 0 = .ok (.aload_n 0, 1) := by decide +kernel
theorem d19_1 : decode prog_3_method_7_code 1 = .ok (.getfield 16, 3) := by decide +kernel
theorem d19_4 : decode prog_3_method_7_code 4 = .ok (.lreturn, 1) := by decide +kernel
def QrmG_holdP50Ms (w : Int64) (h0 : Heap) (n0 : Nat) (v : Option Value) (h : Heap) (L : List Loc) : Prop := v = some (.long w) ∧ Fr n0 L ∧ h = h0
theorem own_pn_rmG_holdP50Ms : plainName "com/example/nosy_pool/nosypool/CheckoutStatistics" = true := by first | (simp [plainName, overriddenIn]; done) | decide +kernel
theorem own_ef_rmG_holdP50Ms (m : MethodId) (a1 : Addr) : entryFrame m #[(.ref a1)] 1 = (mkF m 0 #[.val (.ref a1)] []) := by first | (simp [entryFrame, mkF, argsToLocals, Value.category]; done) | rfl
set_option maxRecDepth 65536 in
set_option maxHeartbeats 40000000 in
theorem rmG_holdP50Ms (l : Launch) (Z : State) (a0 : Array Value) (hw : ∀ d ∈ tables_1, d.before a0 Z = true) (ws : List Jvm.Cond) (a1 : Addr) (w : Int64) (h0 : Heap) (n0 : Nat) (Z0 : n0 ≤ h0.size) (F : Fld Z h0 a1 "com/example/nosy_pool/nosypool/CheckoutStatistics" "holdP50Ms" "J" (.long w)) :
    MetFree l (⟨"com/example/nosy_pool/nosypool/CheckoutStatistics", "holdP50Ms", "()J"⟩ : MethodName) (head1 (Jvm.Cond.code (⟨"com/example/nosy_pool/nosypool/CheckoutStatistics", "holdP50Ms", "()J"⟩ : MethodName) prog_3_method_7_code 1 (some .long) :: ws) ({ frames := 0, cells := 0, slots := 0, locals := 0 } : Room)) (fun a U => a = #[(.ref a1)] ∧ Z.Warmed39 U.vm ∧ U.heap = h0) (fun _ _ _ _ _ => True) (fun _ U o U' => ∃ v L, o = .returned v ∧ QrmG_holdP50Ms w h0 n0 v U'.heap L ∧ FrameEnd U o U' L ({ frames := 0, cells := 0, slots := 0, locals := 0 } : Room).cells ({ frames := 0, cells := 0, slots := 0, locals := 0 } : Room).slots) := by
  refine MetFree.of_bodySF (plainFor_of_name own_pn_rmG_holdP50Ms) hisR ?_
  intro p e s m args below meth c s₁ Bd hml0 hP hK
  obtain ⟨hargs, hZ, hh⟩ := hP
  have hx := Bd.exec
  have hby := Bd.bytes
  have hml : c.maxLocals = 1 := hml0
  have hown : s.vm.findClass "com/example/nosy_pool/nosypool/CheckoutStatistics" = some m.cls := findClass_of_methodNamed Bd.named
  have hnm := (name_of_methodNamed Bd.named Bd.method).1
  have hlock : meth.locks = false := Bd.notSynchronized
  have hret0 := Bd.returns
  have X0 : Stand p l e ({ frames := 0, cells := 0, slots := 0, locals := 0 } : Room) s m args below meth c s₁ [] 0 0 := Stand.of_body Bd
  have e0 : s₁.heap = h0 := by rw [← hh, Bd.state]; rfl
  have N0 := Fr.nil n0
  have pre0 : ∀ t, Steps p.tables e below (s₁.setTop (mkF m 0 #[.val (.ref a1)] [])) t → Steps p.tables e below (s₁.setTop (entryFrame m args 1)) t := fun t k => castTop (by rw [hargs]; exact own_ef_rmG_holdP50Ms m a1) k
  clear Bd
  obtain ⟨T242, X242, e242, st242⟩ := getF X0 hx hZ hown (host := "") (Or.inl (hw _ (List.mem_of_getElem? (i := 91) rfl))) Via.refl e0 F (g := (mkF m 1 #[.val (.ref a1)] [(.ref a1)])) rfl rfl (hb hby d19_1)
  obtain ⟨fs, hr, hrun, hended, hW, hsame⟩ := X242.leave (v := some (.long w)) (fun h => by rw [hret0] at h; cases h)
  refine ⟨_, _, pre0 _ ?_, hrun, hended, _, _, rfl, ?_, ⟨_, rfl⟩, hW, hsame.mono (by decide) (by decide)⟩
  · show Steps p.tables e below (s₁.setTop (mkF m 0 #[.val (.ref a1)] [])) _
    refine XS.aloadN X0.here hx rfl (hb hby d19_0) rfl rfl ?_
    show Steps p.tables e below (s₁.setTop (mkF m 1 #[.val (.ref a1)] [(.ref a1)])) _
    refine st242 _ ?_
    show Steps p.tables e below (T242.setTop (mkF m 4 #[.val (.ref a1)] [(.long w)])) _
    exact retJ X242 hx hret0 (hb hby d19_4) hr
  · show QrmG_holdP50Ms w h0 n0 _ T242.heap _
    rw [e242]
    exact ⟨rfl, N0, rfl⟩
theorem d20_0 : decode prog_3_method_8_code 0 = .ok (.aload_n 0, 1) := by decide +kernel
theorem d20_1 : decode prog_3_method_8_code 1 = .ok (.getfield 19, 3) := by decide +kernel
theorem d20_4 : decode prog_3_method_8_code 4 = .ok (.lreturn, 1) := by decide +kernel
def QrmG_holdP99Ms (w : Int64) (h0 : Heap) (n0 : Nat) (v : Option Value) (h : Heap) (L : List Loc) : Prop := v = some (.long w) ∧ Fr n0 L ∧ h = h0
theorem own_pn_rmG_holdP99Ms : plainName "com/example/nosy_pool/nosypool/CheckoutStatistics" = true := by first | (simp [plainName, overriddenIn]; done) | decide +kernel
theorem own_ef_rmG_holdP99Ms (m : MethodId) (a1 : Addr) : entryFrame m #[(.ref a1)] 1 = (mkF m 0 #[.val (.ref a1)] []) := by first | (simp [entryFrame, mkF, argsToLocals, Value.category]; done) | rfl
set_option maxRecDepth 65536 in
set_option maxHeartbeats 40000000 in
theorem rmG_holdP99Ms (l : Launch) (Z : State) (a0 : Array Value) (hw : ∀ d ∈ tables_1, d.before a0 Z = true) (ws : List Jvm.Cond) (a1 : Addr) (w : Int64) (h0 : Heap) (n0 : Nat) (Z0 : n0 ≤ h0.size) (F : Fld Z h0 a1 "com/example/nosy_pool/nosypool/CheckoutStatistics" "holdP99Ms" "J" (.long w)) :
    MetFree l (⟨"com/example/nosy_pool/nosypool/CheckoutStatistics", "holdP99Ms", "()J"⟩ : MethodName) (head1 (Jvm.Cond.code (⟨"com/example/nosy_pool/nosypool/CheckoutStatistics", "holdP99Ms", "()J"⟩ : MethodName) prog_3_method_8_code 1 (some .long) :: ws) ({ frames := 0, cells := 0, slots := 0, locals := 0 } : Room)) (fun a U => a = #[(.ref a1)] ∧ Z.Warmed39 U.vm ∧ U.heap = h0) (fun _ _ _ _ _ => True) (fun _ U o U' => ∃ v L, o = .returned v ∧ QrmG_holdP99Ms w h0 n0 v U'.heap L ∧ FrameEnd U o U' L ({ frames := 0, cells := 0, slots := 0, locals := 0 } : Room).cells ({ frames := 0, cells := 0, slots := 0, locals := 0 } : Room).slots) := by
  refine MetFree.of_bodySF (plainFor_of_name own_pn_rmG_holdP99Ms) hisR ?_
  intro p e s m args below meth c s₁ Bd hml0 hP hK
  obtain ⟨hargs, hZ, hh⟩ := hP
  have hx := Bd.exec
  have hby := Bd.bytes
  have hml : c.maxLocals = 1 := hml0
  have hown : s.vm.findClass "com/example/nosy_pool/nosypool/CheckoutStatistics" = some m.cls := findClass_of_methodNamed Bd.named
  have hnm := (name_of_methodNamed Bd.named Bd.method).1
  have hlock : meth.locks = false := Bd.notSynchronized
  have hret0 := Bd.returns
  have X0 : Stand p l e ({ frames := 0, cells := 0, slots := 0, locals := 0 } : Room) s m args below meth c s₁ [] 0 0 := Stand.of_body Bd
  have e0 : s₁.heap = h0 := by rw [← hh, Bd.state]; rfl
  have N0 := Fr.nil n0
  have pre0 : ∀ t, Steps p.tables e below (s₁.setTop (mkF m 0 #[.val (.ref a1)] [])) t → Steps p.tables e below (s₁.setTop (entryFrame m args 1)) t := fun t k => castTop (by rw [hargs]; exact own_ef_rmG_holdP99Ms m a1) k
  clear Bd
  obtain ⟨T243, X243, e243, st243⟩ := getF X0 hx hZ hown (host := "") (Or.inl (hw _ (List.mem_of_getElem? (i := 93) rfl))) Via.refl e0 F (g := (mkF m 1 #[.val (.ref a1)] [(.ref a1)])) rfl rfl (hb hby d20_1)
  obtain ⟨fs, hr, hrun, hended, hW, hsame⟩ := X243.leave (v := some (.long w)) (fun h => by rw [hret0] at h; cases h)
  refine ⟨_, _, pre0 _ ?_, hrun, hended, _, _, rfl, ?_, ⟨_, rfl⟩, hW, hsame.mono (by decide) (by decide)⟩
  · show Steps p.tables e below (s₁.setTop (mkF m 0 #[.val (.ref a1)] [])) _
    refine XS.aloadN X0.here hx rfl (hb hby d20_0) rfl rfl ?_
    show Steps p.tables e below (s₁.setTop (mkF m 1 #[.val (.ref a1)] [(.ref a1)])) _
    refine st243 _ ?_
    show Steps p.tables e below (T243.setTop (mkF m 4 #[.val (.ref a1)] [(.long w)])) _
    exact retJ X243 hx hret0 (hb hby d20_4) hr
  · show QrmG_holdP99Ms w h0 n0 _ T243.heap _
    rw [e243]
    exact ⟨rfl, N0, rfl⟩
theorem d21_0 : decode prog_3_method_9_code 0 = .ok (.aload_n 0, 1) := by decide +kernel
theorem d21_1 : decode prog_3_method_9_code 1 = .ok (.getfield 22, 3) := by decide +kernel
theorem d21_4 : decode prog_3_method_9_code 4 = .ok (.lreturn, 1) := by decide +kernel
def QrmG_busyP50Ms (w : Int64) (h0 : Heap) (n0 : Nat) (v : Option Value) (h : Heap) (L : List Loc) : Prop := v = some (.long w) ∧ Fr n0 L ∧ h = h0
theorem own_pn_rmG_busyP50Ms : plainName "com/example/nosy_pool/nosypool/CheckoutStatistics" = true := by first | (simp [plainName, overriddenIn]; done) | decide +kernel
theorem own_ef_rmG_busyP50Ms (m : MethodId) (a1 : Addr) : entryFrame m #[(.ref a1)] 1 = (mkF m 0 #[.val (.ref a1)] []) := by first | (simp [entryFrame, mkF, argsToLocals, Value.category]; done) | rfl
set_option maxRecDepth 65536 in
set_option maxHeartbeats 40000000 in
theorem rmG_busyP50Ms (l : Launch) (Z : State) (a0 : Array Value) (hw : ∀ d ∈ tables_1, d.before a0 Z = true) (ws : List Jvm.Cond) (a1 : Addr) (w : Int64) (h0 : Heap) (n0 : Nat) (Z0 : n0 ≤ h0.size) (F : Fld Z h0 a1 "com/example/nosy_pool/nosypool/CheckoutStatistics" "busyP50Ms" "J" (.long w)) :
    MetFree l (⟨"com/example/nosy_pool/nosypool/CheckoutStatistics", "busyP50Ms", "()J"⟩ : MethodName) (head1 (Jvm.Cond.code (⟨"com/example/nosy_pool/nosypool/CheckoutStatistics", "busyP50Ms", "()J"⟩ : MethodName) prog_3_method_9_code 1 (some .long) :: ws) ({ frames := 0, cells := 0, slots := 0, locals := 0 } : Room)) (fun a U => a = #[(.ref a1)] ∧ Z.Warmed39 U.vm ∧ U.heap = h0) (fun _ _ _ _ _ => True) (fun _ U o U' => ∃ v L, o = .returned v ∧ QrmG_busyP50Ms w h0 n0 v U'.heap L ∧ FrameEnd U o U' L ({ frames := 0, cells := 0, slots := 0, locals := 0 } : Room).cells ({ frames := 0, cells := 0, slots := 0, locals := 0 } : Room).slots) := by
  refine MetFree.of_bodySF (plainFor_of_name own_pn_rmG_busyP50Ms) hisR ?_
  intro p e s m args below meth c s₁ Bd hml0 hP hK
  obtain ⟨hargs, hZ, hh⟩ := hP
  have hx := Bd.exec
  have hby := Bd.bytes
  have hml : c.maxLocals = 1 := hml0
  have hown : s.vm.findClass "com/example/nosy_pool/nosypool/CheckoutStatistics" = some m.cls := findClass_of_methodNamed Bd.named
  have hnm := (name_of_methodNamed Bd.named Bd.method).1
  have hlock : meth.locks = false := Bd.notSynchronized
  have hret0 := Bd.returns
  have X0 : Stand p l e ({ frames := 0, cells := 0, slots := 0, locals := 0 } : Room) s m args below meth c s₁ [] 0 0 := Stand.of_body Bd
  have e0 : s₁.heap = h0 := by rw [← hh, Bd.state]; rfl
  have N0 := Fr.nil n0
  have pre0 : ∀ t, Steps p.tables e below (s₁.setTop (mkF m 0 #[.val (.ref a1)] [])) t → Steps p.tables e below (s₁.setTop (entryFrame m args 1)) t := fun t k => castTop (by rw [hargs]; exact own_ef_rmG_busyP50Ms m a1) k
  clear Bd
  obtain ⟨T244, X244, e244, st244⟩ := getF X0 hx hZ hown (host := "") (Or.inl (hw _ (List.mem_of_getElem? (i := 95) rfl))) Via.refl e0 F (g := (mkF m 1 #[.val (.ref a1)] [(.ref a1)])) rfl rfl (hb hby d21_1)
  obtain ⟨fs, hr, hrun, hended, hW, hsame⟩ := X244.leave (v := some (.long w)) (fun h => by rw [hret0] at h; cases h)
  refine ⟨_, _, pre0 _ ?_, hrun, hended, _, _, rfl, ?_, ⟨_, rfl⟩, hW, hsame.mono (by decide) (by decide)⟩
  · show Steps p.tables e below (s₁.setTop (mkF m 0 #[.val (.ref a1)] [])) _
    refine XS.aloadN X0.here hx rfl (hb hby d21_0) rfl rfl ?_
    show Steps p.tables e below (s₁.setTop (mkF m 1 #[.val (.ref a1)] [(.ref a1)])) _
    refine st244 _ ?_
    show Steps p.tables e below (T244.setTop (mkF m 4 #[.val (.ref a1)] [(.long w)])) _
    exact retJ X244 hx hret0 (hb hby d21_4) hr
  · show QrmG_busyP50Ms w h0 n0 _ T244.heap _
    rw [e244]
    exact ⟨rfl, N0, rfl⟩
theorem d22_0 : decode prog_3_method_10_code 0 = .ok (.aload_n 0, 1) := by decide +kernel
theorem d22_1 : decode prog_3_method_10_code 1 = .ok (.getfield 25, 3) := by decide +kernel
theorem d22_4 : decode prog_3_method_10_code 4 = .ok (.lreturn, 1) := by decide +kernel
def QrmG_busyP99Ms (w : Int64) (h0 : Heap) (n0 : Nat) (v : Option Value) (h : Heap) (L : List Loc) : Prop := v = some (.long w) ∧ Fr n0 L ∧ h = h0
theorem own_pn_rmG_busyP99Ms : plainName "com/example/nosy_pool/nosypool/CheckoutStatistics" = true := by first | (simp [plainName, overriddenIn]; done) | decide +kernel
theorem own_ef_rmG_busyP99Ms (m : MethodId) (a1 : Addr) : entryFrame m #[(.ref a1)] 1 = (mkF m 0 #[.val (.ref a1)] []) := by first | (simp [entryFrame, mkF, argsToLocals, Value.category]; done) | rfl
set_option maxRecDepth 65536 in
set_option maxHeartbeats 40000000 in
theorem rmG_busyP99Ms (l : Launch) (Z : State) (a0 : Array Value) (hw : ∀ d ∈ tables_1, d.before a0 Z = true) (ws : List Jvm.Cond) (a1 : Addr) (w : Int64) (h0 : Heap) (n0 : Nat) (Z0 : n0 ≤ h0.size) (F : Fld Z h0 a1 "com/example/nosy_pool/nosypool/CheckoutStatistics" "busyP99Ms" "J" (.long w)) :
    MetFree l (⟨"com/example/nosy_pool/nosypool/CheckoutStatistics", "busyP99Ms", "()J"⟩ : MethodName) (head1 (Jvm.Cond.code (⟨"com/example/nosy_pool/nosypool/CheckoutStatistics", "busyP99Ms", "()J"⟩ : MethodName) prog_3_method_10_code 1 (some .long) :: ws) ({ frames := 0, cells := 0, slots := 0, locals := 0 } : Room)) (fun a U => a = #[(.ref a1)] ∧ Z.Warmed39 U.vm ∧ U.heap = h0) (fun _ _ _ _ _ => True) (fun _ U o U' => ∃ v L, o = .returned v ∧ QrmG_busyP99Ms w h0 n0 v U'.heap L ∧ FrameEnd U o U' L ({ frames := 0, cells := 0, slots := 0, locals := 0 } : Room).cells ({ frames := 0, cells := 0, slots := 0, locals := 0 } : Room).slots) := by
  refine MetFree.of_bodySF (plainFor_of_name own_pn_rmG_busyP99Ms) hisR ?_
  intro p e s m args below meth c s₁ Bd hml0 hP hK
  obtain ⟨hargs, hZ, hh⟩ := hP
  have hx := Bd.exec
  have hby := Bd.bytes
  have hml : c.maxLocals = 1 := hml0
  have hown : s.vm.findClass "com/example/nosy_pool/nosypool/CheckoutStatistics" = some m.cls := findClass_of_methodNamed Bd.named
  have hnm := (name_of_methodNamed Bd.named Bd.method).1
  have hlock : meth.locks = false := Bd.notSynchronized
  have hret0 := Bd.returns
  have X0 : Stand p l e ({ frames := 0, cells := 0, slots := 0, locals := 0 } : Room) s m args below meth c s₁ [] 0 0 := Stand.of_body Bd
  have e0 : s₁.heap = h0 := by rw [← hh, Bd.state]; rfl
  have N0 := Fr.nil n0
  have pre0 : ∀ t, Steps p.tables e below (s₁.setTop (mkF m 0 #[.val (.ref a1)] [])) t → Steps p.tables e below (s₁.setTop (entryFrame m args 1)) t := fun t k => castTop (by rw [hargs]; exact own_ef_rmG_busyP99Ms m a1) k
  clear Bd
  obtain ⟨T245, X245, e245, st245⟩ := getF X0 hx hZ hown (host := "") (Or.inl (hw _ (List.mem_of_getElem? (i := 97) rfl))) Via.refl e0 F (g := (mkF m 1 #[.val (.ref a1)] [(.ref a1)])) rfl rfl (hb hby d22_1)
  obtain ⟨fs, hr, hrun, hended, hW, hsame⟩ := X245.leave (v := some (.long w)) (fun h => by rw [hret0] at h; cases h)
  refine ⟨_, _, pre0 _ ?_, hrun, hended, _, _, rfl, ?_, ⟨_, rfl⟩, hW, hsame.mono (by decide) (by decide)⟩
  · show Steps p.tables e below (s₁.setTop (mkF m 0 #[.val (.ref a1)] [])) _
    refine XS.aloadN X0.here hx rfl (hb hby d22_0) rfl rfl ?_
    show Steps p.tables e below (s₁.setTop (mkF m 1 #[.val (.ref a1)] [(.ref a1)])) _
    refine st245 _ ?_
    show Steps p.tables e below (T245.setTop (mkF m 4 #[.val (.ref a1)] [(.long w)])) _
    exact retJ X245 hx hret0 (hb hby d22_4) hr
  · show QrmG_busyP99Ms w h0 n0 _ T245.heap _
    rw [e245]
    exact ⟨rfl, N0, rfl⟩
theorem d23_0 : decode prog_3_method_11_code 0 = .ok (.aload_n 0, 1) := by decide +kernel
theorem d23_1 : decode prog_3_method_11_code 1 = .ok (.getfield 28, 3) := by decide +kernel
theorem d23_4 : decode prog_3_method_11_code 4 = .ok (.dreturn, 1) := by decide +kernel
def QrmG_busyRatio (w : UInt64) (h0 : Heap) (n0 : Nat) (v : Option Value) (h : Heap) (L : List Loc) : Prop := v = some (.double w) ∧ Fr n0 L ∧ h = h0
theorem own_pn_rmG_busyRatio : plainName "com/example/nosy_pool/nosypool/CheckoutStatistics" = true := by first | (simp [plainName, overriddenIn]; done) | decide +kernel
theorem own_ef_rmG_busyRatio (m : MethodId) (a1 : Addr) : entryFrame m #[(.ref a1)] 1 = (mkF m 0 #[.val (.ref a1)] []) := by first | (simp [entryFrame, mkF, argsToLocals, Value.category]; done) | rfl
set_option maxRecDepth 65536 in
set_option maxHeartbeats 40000000 in
theorem rmG_busyRatio (l : Launch) (Z : State) (a0 : Array Value) (hw : ∀ d ∈ tables_1, d.before a0 Z = true) (ws : List Jvm.Cond) (a1 : Addr) (w : UInt64) (h0 : Heap) (n0 : Nat) (Z0 : n0 ≤ h0.size) (F : Fld Z h0 a1 "com/example/nosy_pool/nosypool/CheckoutStatistics" "busyRatio" "D" (.double w)) :
    MetFree l (⟨"com/example/nosy_pool/nosypool/CheckoutStatistics", "busyRatio", "()D"⟩ : MethodName) (head1 (Jvm.Cond.code (⟨"com/example/nosy_pool/nosypool/CheckoutStatistics", "busyRatio", "()D"⟩ : MethodName) prog_3_method_11_code 1 (some .double) :: ws) ({ frames := 0, cells := 0, slots := 0, locals := 0 } : Room)) (fun a U => a = #[(.ref a1)] ∧ Z.Warmed39 U.vm ∧ U.heap = h0) (fun _ _ _ _ _ => True) (fun _ U o U' => ∃ v L, o = .returned v ∧ QrmG_busyRatio w h0 n0 v U'.heap L ∧ FrameEnd U o U' L ({ frames := 0, cells := 0, slots := 0, locals := 0 } : Room).cells ({ frames := 0, cells := 0, slots := 0, locals := 0 } : Room).slots) := by
  refine MetFree.of_bodySF (plainFor_of_name own_pn_rmG_busyRatio) hisR ?_
  intro p e s m args below meth c s₁ Bd hml0 hP hK
  obtain ⟨hargs, hZ, hh⟩ := hP
  have hx := Bd.exec
  have hby := Bd.bytes
  have hml : c.maxLocals = 1 := hml0
  have hown : s.vm.findClass "com/example/nosy_pool/nosypool/CheckoutStatistics" = some m.cls := findClass_of_methodNamed Bd.named
  have hnm := (name_of_methodNamed Bd.named Bd.method).1
  have hlock : meth.locks = false := Bd.notSynchronized
  have hret0 := Bd.returns
  have X0 : Stand p l e ({ frames := 0, cells := 0, slots := 0, locals := 0 } : Room) s m args below meth c s₁ [] 0 0 := Stand.of_body Bd
  have e0 : s₁.heap = h0 := by rw [← hh, Bd.state]; rfl
  have N0 := Fr.nil n0
  have pre0 : ∀ t, Steps p.tables e below (s₁.setTop (mkF m 0 #[.val (.ref a1)] [])) t → Steps p.tables e below (s₁.setTop (entryFrame m args 1)) t := fun t k => castTop (by rw [hargs]; exact own_ef_rmG_busyRatio m a1) k
  clear Bd
  obtain ⟨T246, X246, e246, st246⟩ := getF X0 hx hZ hown (host := "") (Or.inl (hw _ (List.mem_of_getElem? (i := 99) rfl))) Via.refl e0 F (g := (mkF m 1 #[.val (.ref a1)] [(.ref a1)])) rfl rfl (hb hby d23_1)
  obtain ⟨fs, hr, hrun, hended, hW, hsame⟩ := X246.leave (v := some (.double w)) (fun h => by rw [hret0] at h; cases h)
  refine ⟨_, _, pre0 _ ?_, hrun, hended, _, _, rfl, ?_, ⟨_, rfl⟩, hW, hsame.mono (by decide) (by decide)⟩
  · show Steps p.tables e below (s₁.setTop (mkF m 0 #[.val (.ref a1)] [])) _
    refine XS.aloadN X0.here hx rfl (hb hby d23_0) rfl rfl ?_
    show Steps p.tables e below (s₁.setTop (mkF m 1 #[.val (.ref a1)] [(.ref a1)])) _
    refine st246 _ ?_
    show Steps p.tables e below (T246.setTop (mkF m 4 #[.val (.ref a1)] [(.double w)])) _
    exact retD X246 hx hret0 (hb hby d23_4) hr
  · show QrmG_busyRatio w h0 n0 _ T246.heap _
    rw [e246]
    exact ⟨rfl, N0, rfl⟩
def own_ratio (ht bt : Int64) : UInt64 := if 0 < ht then FP.ddiv (FP.l2d bt) (FP.l2d ht) else 0
theorem own_nnan {ht bt : Int64} (h : 0 < ht) : Jvm.Free.Fl.NoNaN64 (FP.ddiv (FP.l2d bt) (FP.l2d ht)) := Jvm.Free.Fl.ddiv_out (Jvm.Free.Fl.l2d_fin bt).noNaN (Jvm.Free.Fl.l2d_fin ht) (Jvm.Free.Fl.l2d_nz (fun q => by rw [q] at h; exact Int64.lt_irrefl h))
theorem own_nnan0 : Jvm.Free.Fl.NoNaN64 (0 : UInt64) := by rw [Jvm.Free.Fl.noNaN64_iff]; decide
theorem own_ratioN (ht bt : Int64) : Jvm.Free.Fl.NoNaN64 (own_ratio ht bt) := by
  unfold own_ratio
  split
  · exact own_nnan (by assumption)
  · exact own_nnan0
theorem d5_0 : decode prog_1_method_5_code 0 = .ok (.aload_n 0, 1) := by decide +kernel
theorem d5_1 : decode prog_1_method_5_code 1 = .ok (.getfield 21, 3) := by decide +kernel
theorem d5_4 : decode prog_1_method_5_code 4 = .ok (.ldc2_w 28, 3) := by decide +kernel
theorem d5_7 : decode prog_1_method_5_code 7 = .ok (.invokestatic 35, 3) := by decide +kernel
theorem d5_10 : decode prog_1_method_5_code 10 = .ok (.l2i, 1) := by decide +kernel
theorem d5_11 : decode prog_1_method_5_code 11 = .ok (.istore_n 1, 1) := by decide +kernel
theorem d5_12 : decode prog_1_method_5_code 12 = .ok (.iload_n 1, 1) := by decide +kernel
theorem d5_13 : decode prog_1_method_5_code 13 = .ok (.ifCond .ne 7, 3) := by decide +kernel
theorem d5_20 : decode prog_1_method_5_code 20 = .ok (.aload_n 0, 1) := by decide +kernel
theorem d5_21 : decode prog_1_method_5_code 21 = .ok (.getfield 14, 3) := by decide +kernel
theorem d5_24 : decode prog_1_method_5_code 24 = .ok (.iload_n 1, 1) := by decide +kernel
theorem d5_25 : decode prog_1_method_5_code 25 = .ok (.invokestatic 45, 3) := by decide +kernel
theorem d5_28 : decode prog_1_method_5_code 28 = .ok (.astore_n 2, 1) := by decide +kernel
theorem d5_29 : decode prog_1_method_5_code 29 = .ok (.aload_n 0, 1) := by decide +kernel
theorem d5_30 : decode prog_1_method_5_code 30 = .ok (.getfield 18, 3) := by decide +kernel
theorem d5_33 : decode prog_1_method_5_code 33 = .ok (.iload_n 1, 1) := by decide +kernel
theorem d5_34 : decode prog_1_method_5_code 34 = .ok (.invokestatic 45, 3) := by decide +kernel
theorem d5_37 : decode prog_1_method_5_code 37 = .ok (.astore_n 3, 1) := by decide +kernel
theorem d5_38 : decode prog_1_method_5_code 38 = .ok (.lconst 0, 1) := by decide +kernel
theorem d5_39 : decode prog_1_method_5_code 39 = .ok (.lstore 4, 2) := by decide +kernel
theorem d5_41 : decode prog_1_method_5_code 41 = .ok (.lconst 0, 1) := by decide +kernel
theorem d5_42 : decode prog_1_method_5_code 42 = .ok (.lstore 6, 2) := by decide +kernel
theorem d5_44 : decode prog_1_method_5_code 44 = .ok (.iconst 0, 1) := by decide +kernel
theorem d5_45 : decode prog_1_method_5_code 45 = .ok (.istore 8, 2) := by decide +kernel
theorem d5_47 : decode prog_1_method_5_code 47 = .ok (.iload 8, 2) := by decide +kernel
theorem d5_49 : decode prog_1_method_5_code 49 = .ok (.iload_n 1, 1) := by decide +kernel
theorem d5_50 : decode prog_1_method_5_code 50 = .ok (.if_icmp .ge 27, 3) := by decide +kernel
theorem d5_53 : decode prog_1_method_5_code 53 = .ok (.lload 4, 2) := by decide +kernel
theorem d5_55 : decode prog_1_method_5_code 55 = .ok (.aload_n 2, 1) := by decide +kernel
theorem d5_56 : decode prog_1_method_5_code 56 = .ok (.iload 8, 2) := by decide +kernel
theorem d5_58 : decode prog_1_method_5_code 58 = .ok (.laload, 1) := by decide +kernel
theorem d5_59 : decode prog_1_method_5_code 59 = .ok (.ladd, 1) := by decide +kernel
theorem d5_60 : decode prog_1_method_5_code 60 = .ok (.lstore 4, 2) := by decide +kernel
theorem d5_62 : decode prog_1_method_5_code 62 = .ok (.lload 6, 2) := by decide +kernel
theorem d5_64 : decode prog_1_method_5_code 64 = .ok (.aload_n 3, 1) := by decide +kernel
theorem d5_65 : decode prog_1_method_5_code 65 = .ok (.iload 8, 2) := by decide +kernel
theorem d5_67 : decode prog_1_method_5_code 67 = .ok (.laload, 1) := by decide +kernel
theorem d5_68 : decode prog_1_method_5_code 68 = .ok (.ladd, 1) := by decide +kernel
theorem d5_69 : decode prog_1_method_5_code 69 = .ok (.lstore 6, 2) := by decide +kernel
theorem d5_71 : decode prog_1_method_5_code 71 = .ok (.iinc 8 1, 3) := by decide +kernel
theorem d5_74 : decode prog_1_method_5_code 74 = .ok (.goto (-27), 3) := by decide +kernel
theorem d5_77 : decode prog_1_method_5_code 77 = .ok (.aload_n 2, 1) := by decide +kernel
theorem d5_78 : decode prog_1_method_5_code 78 = .ok (.invokestatic 51, 3) := by decide +kernel
theorem d5_81 : decode prog_1_method_5_code 81 = .ok (.aload_n 3, 1) := by decide +kernel
theorem d5_82 : decode prog_1_method_5_code 82 = .ok (.invokestatic 51, 3) := by decide +kernel
theorem d5_85 : decode prog_1_method_5_code 85 = .ok (.dconst 0, 1) := by decide +kernel
theorem d5_86 : decode prog_1_method_5_code 86 = .ok (.dstore 8, 2) := by decide +kernel
theorem d5_88 : decode prog_1_method_5_code 88 = .ok (.lload 4, 2) := by decide +kernel
theorem d5_90 : decode prog_1_method_5_code 90 = .ok (.lconst 0, 1) := by decide +kernel
theorem d5_91 : decode prog_1_method_5_code 91 = .ok (.lcmp, 1) := by decide +kernel
theorem d5_92 : decode prog_1_method_5_code 92 = .ok (.ifCond .le 12, 3) := by decide +kernel
theorem d5_95 : decode prog_1_method_5_code 95 = .ok (.lload 6, 2) := by decide +kernel
theorem d5_97 : decode prog_1_method_5_code 97 = .ok (.l2d, 1) := by decide +kernel
theorem d5_98 : decode prog_1_method_5_code 98 = .ok (.lload 4, 2) := by decide +kernel
theorem d5_100 : decode prog_1_method_5_code 100 = .ok (.l2d, 1) := by decide +kernel
theorem d5_101 : decode prog_1_method_5_code 101 = .ok (.ddiv, 1) := by decide +kernel
theorem d5_102 : decode prog_1_method_5_code 102 = .ok (.dstore 8, 2) := by decide +kernel
theorem d5_104 : decode prog_1_method_5_code 104 = .ok (.new 1, 3) := by decide +kernel
theorem d5_107 : decode prog_1_method_5_code 107 = .ok (.dup, 1) := by decide +kernel
theorem d5_108 : decode prog_1_method_5_code 108 = .ok (.aload_n 0, 1) := by decide +kernel
theorem d5_109 : decode prog_1_method_5_code 109 = .ok (.getfield 21, 3) := by decide +kernel
theorem d5_112 : decode prog_1_method_5_code 112 = .ok (.aload_n 0, 1) := by decide +kernel
theorem d5_113 : decode prog_1_method_5_code 113 = .ok (.getfield 25, 3) := by decide +kernel
theorem d5_116 : decode prog_1_method_5_code 116 = .ok (.aload_n 2, 1) := by decide +kernel
theorem d5_117 : decode prog_1_method_5_code 117 = .ok (.bipush 50, 2) := by decide +kernel
theorem d5_119 : decode prog_1_method_5_code 119 = .ok (.invokestatic 55, 3) := by decide +kernel
theorem d5_122 : decode prog_1_method_5_code 122 = .ok (.aload_n 2, 1) := by decide +kernel
theorem d5_123 : decode prog_1_method_5_code 123 = .ok (.bipush 99, 2) := by decide +kernel
theorem d5_125 : decode prog_1_method_5_code 125 = .ok (.invokestatic 55, 3) := by decide +kernel
theorem d5_128 : decode prog_1_method_5_code 128 = .ok (.aload_n 3, 1) := by decide +kernel
theorem d5_129 : decode prog_1_method_5_code 129 = .ok (.bipush 50, 2) := by decide +kernel
theorem d5_131 : decode prog_1_method_5_code 131 = .ok (.invokestatic 55, 3) := by decide +kernel
theorem d5_134 : decode prog_1_method_5_code 134 = .ok (.aload_n 3, 1) := by decide +kernel
theorem d5_135 : decode prog_1_method_5_code 135 = .ok (.bipush 99, 2) := by decide +kernel
theorem d5_137 : decode prog_1_method_5_code 137 = .ok (.invokestatic 55, 3) := by decide +kernel
theorem d5_140 : decode prog_1_method_5_code 140 = .ok (.dload 8, 2) := by decide +kernel
theorem d5_142 : decode prog_1_method_5_code 142 = .ok (.invokespecial 59, 3) := by decide +kernel
theorem d5_145 : decode prog_1_method_5_code 145 = .ok (.areturn, 1) := by decide +kernel
def QSt1 (Z : State) (x0 x1 y0 y1 rb : Int64) (h0 : Heap) (n0 : Nat) (v : Option Value) (h : Heap) (L : List Loc) : Prop := ∃ b : Addr, v = some (.ref b) ∧ Fr n0 L ∧ Ext h0 h ∧ Fs Z h b (.long 1) (.long rb) (.long (x0 / (1000000 : Int64))) (.long (x0 / (1000000 : Int64))) (.long (y0 / (1000000 : Int64))) (.long (y0 / (1000000 : Int64))) (.double (own_ratio x0 y0))
theorem own_pn_rmSt1 : plainName "com/example/nosy_pool/nosypool/CheckoutHistory" = true := by first | (simp [plainName, overriddenIn]; done) | decide +kernel
theorem own_ef_rmSt1 (m : MethodId) (a1 : Addr) : entryFrame m #[(.ref a1)] 10 = (mkF m 0 #[.val (.ref a1), .unset, .unset, .unset, .unset, .unset, .unset, .unset, .unset, .unset] []) := by first | (simp [entryFrame, mkF, argsToLocals, Value.category]; done) | rfl
set_option maxRecDepth 65536 in
set_option maxHeartbeats 40000000 in
theorem rmSt1 (l : Launch) (Z : State) (a0 : Array Value) (hw : ∀ d ∈ tables_1, d.before a0 Z = true) (ws : List Jvm.Cond) (a1 : Addr) (xh : Addr) (xb : Addr) (kh : ClassId) (kb : ClassId) (x0 : Int64) (x1 : Int64) (y0 : Int64) (y1 : Int64) (rb : Int64) (tu : Addr) (h0 : Heap) (n0 : Nat) (Z0 : n0 ≤ h0.size) (HH : own_Hist Z h0 a1 xh xb kh kb x0 x1 y0 y1 1 rb) (O6 : Sta Z Z.heap "java/util/concurrent/TimeUnit" "NANOSECONDS" "Ljava/util/concurrent/TimeUnit;" (.ref tu)) (ET : Exa Z Z.heap tu "java/util/concurrent/TimeUnit") (FT1 : Fld Z Z.heap tu "java/util/concurrent/TimeUnit" "scale" "J" (.long (1 : Int64))) (FT2 : Fld Z Z.heap tu "java/util/concurrent/TimeUnit" "milliRatio" "I" (.int (1000000 : Int32))) (X00 : Old Z n0 h0) :
    MetFree l (⟨"com/example/nosy_pool/nosypool/CheckoutHistory", "statistics", "()Lcom/example/nosy_pool/nosypool/CheckoutStatistics;"⟩ : MethodName) (head1 (Jvm.Cond.code (⟨"com/example/nosy_pool/nosypool/CheckoutHistory", "statistics", "()Lcom/example/nosy_pool/nosypool/CheckoutStatistics;"⟩ : MethodName) prog_1_method_5_code 10 (some (.object "com/example/nosy_pool/nosypool/CheckoutStatistics")) :: ws) ({ frames := 4, cells := 3, slots := 9, locals := 110 } : Room)) (fun a U => a = #[(.ref a1)] ∧ Z.Warmed39 U.vm ∧ U.heap = h0) (fun _ _ _ _ _ => True) (fun _ U o U' => ∃ v L, o = .returned v ∧ QSt1 Z x0 x1 y0 y1 rb h0 n0 v U'.heap L ∧ FrameEnd U o U' L ({ frames := 4, cells := 3, slots := 9, locals := 110 } : Room).cells ({ frames := 4, cells := 3, slots := 9, locals := 110 } : Room).slots) := by
  refine MetFree.of_bodySF (plainFor_of_name own_pn_rmSt1) hisR ?_
  intro p e s m args below meth c s₁ Bd hml0 hP hK
  obtain ⟨hargs, hZ, hh⟩ := hP
  have hx := Bd.exec
  have hby := Bd.bytes
  have hml : c.maxLocals = 10 := hml0
  have hown : s.vm.findClass "com/example/nosy_pool/nosypool/CheckoutHistory" = some m.cls := findClass_of_methodNamed Bd.named
  have hnm := (name_of_methodNamed Bd.named Bd.method).1
  have hlock : meth.locks = false := Bd.notSynchronized
  have hret0 := Bd.returns
  have X0 : Stand p l e ({ frames := 4, cells := 3, slots := 9, locals := 110 } : Room) s m args below meth c s₁ [] 0 0 := Stand.of_body Bd
  have e0 : s₁.heap = h0 := by rw [← hh, Bd.state]; rfl
  have N0 := Fr.nil n0
  have pre0 : ∀ t, Steps p.tables e below (s₁.setTop (mkF m 0 #[.val (.ref a1), .unset, .unset, .unset, .unset, .unset, .unset, .unset, .unset, .unset] [])) t → Steps p.tables e below (s₁.setTop (entryFrame m args 10)) t := fun t k => castTop (by rw [hargs]; exact own_ef_rmSt1 m a1) k
  clear Bd
  obtain ⟨⟨Ex, F0, F1, F2, F3⟩, Vh, Vb, hne⟩ := HH
  obtain ⟨T247, X247, e247, st247⟩ := getF X0 hx hZ hown (host := "") (Or.inl (hw _ (List.mem_of_getElem? (i := 17) rfl))) Via.refl e0 F2 (g := (mkF m 1 #[.val (.ref a1), .unset, .unset, .unset, .unset, .unset, .unset, .unset, .unset, .unset] [(.ref a1)])) rfl rfl (hb hby d5_1)
  obtain ⟨v248, vmx248, ⟨T248, L248, k248, n248⟩, -, X248, ⟨Lc248, hQ248, l248, y248, z248⟩, st248⟩ := Jvm.LawKit.callS X247 hx (y := (⟨"java/lang/Math", "min", "(JJ)J"⟩ : MethodName)) hown (mvT hZ (hw _ (List.mem_of_getElem? (i := 32) rfl))) (mvT hZ (hw _ (List.mem_of_getElem? (i := 33) rfl))) (mvT hZ (hw _ (List.mem_of_getElem? (i := 34) rfl))) (mvT hZ (hw _ (List.mem_of_getElem? (i := 35) rfl))) (by decide) (backOf (W := 0) (rmJmin l Z a0 hw [] (1 : Int64) (1024 : Int64) h0 n0 Z0 ) hZ (hw _ (List.mem_of_getElem? (i := 35) rfl)) (hw _ (List.mem_of_getElem? (i := 34) rfl)) (by decide) (by decide)) (g := (mkF m 7 #[.val (.ref a1), .unset, .unset, .unset, .unset, .unset, .unset, .unset, .unset, .unset] [(.long (1024 : Int64)), (.long (1 : Int64))])) rfl (by rw [hml]; rfl) (argsL := [(.long (1 : Int64)), (.long (1024 : Int64))]) (rest := []) (lenOf own_pd7 rfl) rfl (by show 2 * 0 + _ ≤ _; exact Nat.le_of_eq rfl) (hb hby d5_7) (fun _ _ => ⟨rfl, e247, (by decide : 0 + 0 ≤ _), (by decide : 0 + 0 ≤ _)⟩)
  dsimp only [Pt.U, Pt.locs, Pt.cells, Pt.slots] at X248 l248 y248 z248 st248 hQ248
  subst l248 y248 z248
  obtain ⟨rfl, Nq248, eh248⟩ := hQ248
  have N248 := Fr.app N0 Nq248
  have st249 : ∀ target, Steps p.tables e below (T248.setTop (mkF m 12 #[.val (.ref a1), .val (.int (1 : Int32)), .unset, .unset, .unset, .unset, .unset, .unset, .unset, .unset] [])) target → Steps p.tables e below (T248.setTop (mkF m 10 #[.val (.ref a1), .unset, .unset, .unset, .unset, .unset, .unset, .unset, .unset, .unset] [(.long (if (1024 : Int64) < (1 : Int64) then (1024 : Int64) else (1 : Int64)))])) target := by
    have ez : ((if (1024 : Int64) < (1 : Int64) then (1024 : Int64) else (1 : Int64)).toInt32) = (1 : Int32) := by decide
    intro target hk
    show Steps p.tables e below (T248.setTop (mkF m 10 #[.val (.ref a1), .unset, .unset, .unset, .unset, .unset, .unset, .unset, .unset, .unset] [(.long (if (1024 : Int64) < (1 : Int64) then (1024 : Int64) else (1 : Int64)))])) _
    refine XS.l2i X248.here hx rfl (hb hby d5_10) rfl ?_
    show Steps p.tables e below (T248.setTop (mkF m 11 #[.val (.ref a1), .unset, .unset, .unset, .unset, .unset, .unset, .unset, .unset, .unset] [(.int ((if (1024 : Int64) < (1 : Int64) then (1024 : Int64) else (1 : Int64)).toInt32))])) _
    refine XS.istoreN X248.here hx rfl (hb hby d5_11) rfl (l' := #[.val (.ref a1), .val (.int ((if (1024 : Int64) < (1 : Int64) then (1024 : Int64) else (1 : Int64)).toInt32)), .unset, .unset, .unset, .unset, .unset, .unset, .unset, .unset]) rfl ?_
    exact hk
  obtain ⟨T250, X250, e250, st250⟩ := getF X248 hx hZ hown (host := "") (Or.inl (hw _ (List.mem_of_getElem? (i := 13) rfl))) Via.refl eh248 F0 (g := (mkF m 21 #[.val (.ref a1), .val (.int (1 : Int32)), .unset, .unset, .unset, .unset, .unset, .unset, .unset, .unset] [(.ref a1)])) rfl rfl (hb hby d5_21)
  obtain ⟨v251, vmx251, ⟨T251, L251, k251, n251⟩, -, X251, ⟨Lc251, hQ251, l251, y251, z251⟩, st251⟩ := Jvm.LawKit.callS X250 hx (y := (⟨"java/util/Arrays", "copyOf", "([JI)[J"⟩ : MethodName)) hown (mvT hZ (hw _ (List.mem_of_getElem? (i := 36) rfl))) (mvT hZ (hw _ (List.mem_of_getElem? (i := 37) rfl))) (mvT hZ (hw _ (List.mem_of_getElem? (i := 38) rfl))) (mvT hZ (hw _ (List.mem_of_getElem? (i := 39) rfl))) (by decide) (backOf (W := 0) (rmCo1 l Z a0 hw [] xh kh x0 x1 h0 n0 Z0 Vh) hZ (hw _ (List.mem_of_getElem? (i := 39) rfl)) (hw _ (List.mem_of_getElem? (i := 38) rfl)) (by decide) (by decide)) (g := (mkF m 25 #[.val (.ref a1), .val (.int (1 : Int32)), .unset, .unset, .unset, .unset, .unset, .unset, .unset, .unset] [(.int (1 : Int32)), (.ref xh)])) rfl (by rw [hml]; rfl) (argsL := [(.ref xh), (.int (1 : Int32))]) (rest := []) (lenOf own_pd8 rfl) rfl (by show 2 * 0 + _ ≤ _; exact Nat.le_of_eq rfl) (hb hby d5_25) (fun _ _ => ⟨rfl, e250, (by decide : 0 + 1 ≤ _), (by decide : 0 + 1 ≤ _)⟩)
  dsimp only [Pt.U, Pt.locs, Pt.cells, Pt.slots] at X251 l251 y251 z251 st251 hQ251
  subst l251 y251 z251
  obtain ⟨b2, k2, rfl, Nq251, E251, sz251, V251⟩ := hQ251
  have N251 := Fr.app N248 Nq251
  have sz_b2 : h0.size ≤ b2 := Nat.le_trans (Keep.refl h0 []).1 sz251
  have ge_b2 : n0 ≤ b2 := Nat.le_trans Z0 sz251
  have Z252 : n0 ≤ T251.heap.size := Nat.le_trans Z0 E251.1
  have K253 : Keep h0 T251.heap [] := (Keep.refl h0 []).ext E251
  have f254 := (F1.ext E251)
  obtain ⟨T255, X255, e255, st255⟩ := getF X251 hx hZ hown (host := "") (Or.inl (hw _ (List.mem_of_getElem? (i := 15) rfl))) Via.refl rfl f254 (g := (mkF m 30 #[.val (.ref a1), .val (.int (1 : Int32)), .val (.ref b2), .unset, .unset, .unset, .unset, .unset, .unset, .unset] [(.ref a1)])) rfl rfl (hb hby d5_30)
  have f256 := (Vb.ext E251)
  obtain ⟨v257, vmx257, ⟨T257, L257, k257, n257⟩, -, X257, ⟨Lc257, hQ257, l257, y257, z257⟩, st257⟩ := Jvm.LawKit.callS X255 hx (y := (⟨"java/util/Arrays", "copyOf", "([JI)[J"⟩ : MethodName)) hown (mvT hZ (hw _ (List.mem_of_getElem? (i := 36) rfl))) (mvT hZ (hw _ (List.mem_of_getElem? (i := 37) rfl))) (mvT hZ (hw _ (List.mem_of_getElem? (i := 38) rfl))) (mvT hZ (hw _ (List.mem_of_getElem? (i := 39) rfl))) (by decide) (backOf (W := 0) (rmCo1 l Z a0 hw [] xb kb y0 y1 T251.heap n0 Z252 f256) hZ (hw _ (List.mem_of_getElem? (i := 39) rfl)) (hw _ (List.mem_of_getElem? (i := 38) rfl)) (by decide) (by decide)) (g := (mkF m 34 #[.val (.ref a1), .val (.int (1 : Int32)), .val (.ref b2), .unset, .unset, .unset, .unset, .unset, .unset, .unset] [(.int (1 : Int32)), (.ref xb)])) rfl (by rw [hml]; rfl) (argsL := [(.ref xb), (.int (1 : Int32))]) (rest := []) (lenOf own_pd8 rfl) rfl (by show 2 * 0 + _ ≤ _; exact Nat.le_of_eq rfl) (hb hby d5_34) (fun _ _ => ⟨rfl, e255, (by decide : 1 + 1 ≤ _), (by decide : 1 + 1 ≤ _)⟩)
  dsimp only [Pt.U, Pt.locs, Pt.cells, Pt.slots] at X257 l257 y257 z257 st257 hQ257
  subst l257 y257 z257
  obtain ⟨b3, k3, rfl, Nq257, E257, sz257, V257⟩ := hQ257
  have N257 := Fr.app N251 Nq257
  have sz_b3 : h0.size ≤ b3 := Nat.le_trans K253.1 sz257
  have ge_b3 : n0 ≤ b3 := Nat.le_trans Z252 sz257
  have Z258 : n0 ≤ T257.heap.size := Nat.le_trans Z252 E257.1
  have K259 : Keep h0 T257.heap [] := K253.ext E257
  have n23 : b2 ≠ b3 := Nat.ne_of_lt (Nat.lt_of_lt_of_le V251.lt sz257)
  have na2 : a1 ≠ b2 := Nat.ne_of_lt (Nat.lt_of_lt_of_le Ex.lt sz_b2)
  have na3 : a1 ≠ b3 := Nat.ne_of_lt (Nat.lt_of_lt_of_le Ex.lt sz_b3)
  have f260 := (V251.ext E257)
  obtain ⟨cl261, Ar261, -, S261, M261, Hs261, -⟩ := id f260
  have hin261 := inb_of S261 (j := (0 : Int32)) ⟨(by decide), (by decide)⟩
  have hat261 : cl261.slots[((0 : Int32)).toNatClampNeg]? = some (.long x0) := Has.at Hs261 hin261 rfl
  obtain ⟨cl262, Ar262, -, S262, M262, Hs262, -⟩ := id V257
  have hin262 := inb_of S262 (j := (0 : Int32)) ⟨(by decide), (by decide)⟩
  have hat262 : cl262.slots[((0 : Int32)).toNatClampNeg]? = some (.long y0) := Has.at Hs262 hin262 rfl
  obtain ⟨v263, vmx263, ⟨T263, L263, k263, n263⟩, -, X263, ⟨Lc263, hQ263, l263, y263, z263⟩, st263⟩ := Jvm.LawKit.callS X257 hx (y := (⟨"java/util/Arrays", "sort", "([J)V"⟩ : MethodName)) hown (mvT hZ (hw _ (List.mem_of_getElem? (i := 47) rfl))) (mvT hZ (hw _ (List.mem_of_getElem? (i := 48) rfl))) (mvT hZ (hw _ (List.mem_of_getElem? (i := 38) rfl))) (mvT hZ (hw _ (List.mem_of_getElem? (i := 49) rfl))) (by decide) (backOf (W := 0) (rmS11 l Z a0 hw [] b2 k2 x0 x1 T257.heap n0 Z258 f260 ge_b2) hZ (hw _ (List.mem_of_getElem? (i := 49) rfl)) (hw _ (List.mem_of_getElem? (i := 38) rfl)) (by decide) (by decide)) (g := (mkF m 78 #[.val (.ref a1), .val (.int (1 : Int32)), .val (.ref b2), .val (.ref b3), .val (.long ((0 : Int64) + x0)), .second, .val (.long ((0 : Int64) + y0)), .second, .val (.int ((0 : Int32) + (1 : Int32))), .unset] [(.ref b2)])) rfl (by rw [hml]; rfl) (argsL := [(.ref b2)]) (rest := []) (lenOf own_pd9 rfl) rfl (by show 2 * 0 + _ ≤ _; exact Nat.le_of_eq rfl) (hb hby d5_78) (fun _ _ => ⟨rfl, rfl, (by decide : 2 + 0 ≤ _), (by decide : 2 + 0 ≤ _)⟩)
  dsimp only [Pt.U, Pt.locs, Pt.cells, Pt.slots] at X263 l263 y263 z263 st263 hQ263
  subst l263 y263 z263
  obtain ⟨rfl, Nq263, K263, V263⟩ := hQ263
  have N263 := Fr.app N257 Nq263
  have Z264 : n0 ≤ T263.heap.size := Nat.le_trans Z258 K263.1
  have K265 : Keep h0 T263.heap [] := K259.trans K263 (allS (Or.inr sz_b2) all0)
  have f266 := (V257.keep K263 (ninS (Ne.symm n23) nin0))
  obtain ⟨v267, vmx267, ⟨T267, L267, k267, n267⟩, -, X267, ⟨Lc267, hQ267, l267, y267, z267⟩, st267⟩ := Jvm.LawKit.callS X263 hx (y := (⟨"java/util/Arrays", "sort", "([J)V"⟩ : MethodName)) hown (mvT hZ (hw _ (List.mem_of_getElem? (i := 47) rfl))) (mvT hZ (hw _ (List.mem_of_getElem? (i := 48) rfl))) (mvT hZ (hw _ (List.mem_of_getElem? (i := 38) rfl))) (mvT hZ (hw _ (List.mem_of_getElem? (i := 49) rfl))) (by decide) (backOf (W := 0) (rmS11 l Z a0 hw [] b3 k3 y0 y1 T263.heap n0 Z264 f266 ge_b3) hZ (hw _ (List.mem_of_getElem? (i := 49) rfl)) (hw _ (List.mem_of_getElem? (i := 38) rfl)) (by decide) (by decide)) (g := (mkF m 82 #[.val (.ref a1), .val (.int (1 : Int32)), .val (.ref b2), .val (.ref b3), .val (.long ((0 : Int64) + x0)), .second, .val (.long ((0 : Int64) + y0)), .second, .val (.int ((0 : Int32) + (1 : Int32))), .unset] [(.ref b3)])) rfl (by rw [hml]; rfl) (argsL := [(.ref b3)]) (rest := []) (lenOf own_pd9 rfl) rfl (by show 2 * 0 + _ ≤ _; exact Nat.le_of_eq rfl) (hb hby d5_82) (fun _ _ => ⟨rfl, rfl, (by decide : 2 + 0 ≤ _), (by decide : 2 + 0 ≤ _)⟩)
  dsimp only [Pt.U, Pt.locs, Pt.cells, Pt.slots] at X267 l267 y267 z267 st267 hQ267
  subst l267 y267 z267
  obtain ⟨rfl, Nq267, K267, V267⟩ := hQ267
  have N267 := Fr.app N263 Nq267
  have Z268 : n0 ≤ T267.heap.size := Nat.le_trans Z264 K267.1
  have K269 : Keep h0 T267.heap [] := K265.trans K267 (allS (Or.inr sz_b3) all0)
  have eh : ((0 : Int64) + x0) = x0 := by rw [Int64.zero_add]
  have eb : ((0 : Int64) + y0) = y0 := by rw [Int64.zero_add]
  have st270 : ∀ target, Steps p.tables e below (T267.setTop (mkF m 104 #[.val (.ref a1), .val (.int (1 : Int32)), .val (.ref b2), .val (.ref b3), .val (.long ((0 : Int64) + x0)), .second, .val (.long ((0 : Int64) + y0)), .second, .val (.double (own_ratio x0 y0)), .second] [])) target → Steps p.tables e below (T267.setTop (mkF m 85 #[.val (.ref a1), .val (.int (1 : Int32)), .val (.ref b2), .val (.ref b3), .val (.long ((0 : Int64) + x0)), .second, .val (.long ((0 : Int64) + y0)), .second, .val (.int ((0 : Int32) + (1 : Int32))), .unset] [])) target := by
    by_cases hc : (0 : Int64) < ((0 : Int64) + x0)
    · skip
      have hc' : (0 : Int64) < x0 := by rw [← eh]; exact hc
      have er : own_ratio x0 y0 = FP.ddiv (FP.l2d ((0 : Int64) + y0)) (FP.l2d ((0 : Int64) + x0)) := by rw [eh, eb]; exact if_pos hc'
      rw [er]
      intro target hk
      show Steps p.tables e below (T267.setTop (mkF m 85 #[.val (.ref a1), .val (.int (1 : Int32)), .val (.ref b2), .val (.ref b3), .val (.long ((0 : Int64) + x0)), .second, .val (.long ((0 : Int64) + y0)), .second, .val (.int ((0 : Int32) + (1 : Int32))), .unset] [])) _
      refine XS.dconst0 X267.here hx rfl (v := 0) (hb hby d5_85) (by decide +kernel) ?_
      show Steps p.tables e below (T267.setTop (mkF m 86 #[.val (.ref a1), .val (.int (1 : Int32)), .val (.ref b2), .val (.ref b3), .val (.long ((0 : Int64) + x0)), .second, .val (.long ((0 : Int64) + y0)), .second, .val (.int ((0 : Int32) + (1 : Int32))), .unset] [(.double (0 : UInt64))])) _
      refine XS.dstore X267.here hx rfl (hb hby d5_86) rfl (l' := #[.val (.ref a1), .val (.int (1 : Int32)), .val (.ref b2), .val (.ref b3), .val (.long ((0 : Int64) + x0)), .second, .val (.long ((0 : Int64) + y0)), .second, .val (.double (0 : UInt64)), .second]) rfl ?_
      show Steps p.tables e below (T267.setTop (mkF m 88 #[.val (.ref a1), .val (.int (1 : Int32)), .val (.ref b2), .val (.ref b3), .val (.long ((0 : Int64) + x0)), .second, .val (.long ((0 : Int64) + y0)), .second, .val (.double (0 : UInt64)), .second] [])) _
      refine XS.lload X267.here hx rfl (hb hby d5_88) rfl ?_
      show Steps p.tables e below (T267.setTop (mkF m 90 #[.val (.ref a1), .val (.int (1 : Int32)), .val (.ref b2), .val (.ref b3), .val (.long ((0 : Int64) + x0)), .second, .val (.long ((0 : Int64) + y0)), .second, .val (.double (0 : UInt64)), .second] [(.long ((0 : Int64) + x0))])) _
      refine XS.lconst X267.here hx rfl (hb hby d5_90) ?_
      show Steps p.tables e below (T267.setTop (mkF m 91 #[.val (.ref a1), .val (.int (1 : Int32)), .val (.ref b2), .val (.ref b3), .val (.long ((0 : Int64) + x0)), .second, .val (.long ((0 : Int64) + y0)), .second, .val (.double (0 : UInt64)), .second] [(.long (0 : Int64)), (.long ((0 : Int64) + x0))])) _
      refine XS.lcmp X267.here hx rfl (hb hby d5_91) rfl ?_
      show Steps p.tables e below (T267.setTop (mkF m 92 #[.val (.ref a1), .val (.int (1 : Int32)), .val (.ref b2), .val (.ref b3), .val (.long ((0 : Int64) + x0)), .second, .val (.long ((0 : Int64) + y0)), .second, .val (.double (0 : UInt64)), .second] [(.int (lcmpW ((0 : Int64) + x0) (0 : Int64)))])) _
      refine XS.ifNo X267.here hx rfl (hb hby d5_92) rfl ((if0 _ _).trans (tlt ((lw_gt _ _).mpr hc)).2.2.2) ?_
      show Steps p.tables e below (T267.setTop (mkF m 95 #[.val (.ref a1), .val (.int (1 : Int32)), .val (.ref b2), .val (.ref b3), .val (.long ((0 : Int64) + x0)), .second, .val (.long ((0 : Int64) + y0)), .second, .val (.double (0 : UInt64)), .second] [])) _
      refine XS.lload X267.here hx rfl (hb hby d5_95) rfl ?_
      show Steps p.tables e below (T267.setTop (mkF m 97 #[.val (.ref a1), .val (.int (1 : Int32)), .val (.ref b2), .val (.ref b3), .val (.long ((0 : Int64) + x0)), .second, .val (.long ((0 : Int64) + y0)), .second, .val (.double (0 : UInt64)), .second] [(.long ((0 : Int64) + y0))])) _
      refine XS.l2dS X267.here hx rfl (hb hby d5_97) rfl rfl ?_
      show Steps p.tables e below (T267.setTop (mkF m 98 #[.val (.ref a1), .val (.int (1 : Int32)), .val (.ref b2), .val (.ref b3), .val (.long ((0 : Int64) + x0)), .second, .val (.long ((0 : Int64) + y0)), .second, .val (.double (0 : UInt64)), .second] [(.double (FP.l2d ((0 : Int64) + y0)))])) _
      refine XS.lload X267.here hx rfl (hb hby d5_98) rfl ?_
      show Steps p.tables e below (T267.setTop (mkF m 100 #[.val (.ref a1), .val (.int (1 : Int32)), .val (.ref b2), .val (.ref b3), .val (.long ((0 : Int64) + x0)), .second, .val (.long ((0 : Int64) + y0)), .second, .val (.double (0 : UInt64)), .second] [(.long ((0 : Int64) + x0)), (.double (FP.l2d ((0 : Int64) + y0)))])) _
      refine XS.l2dS X267.here hx rfl (hb hby d5_100) rfl rfl ?_
      show Steps p.tables e below (T267.setTop (mkF m 101 #[.val (.ref a1), .val (.int (1 : Int32)), .val (.ref b2), .val (.ref b3), .val (.long ((0 : Int64) + x0)), .second, .val (.long ((0 : Int64) + y0)), .second, .val (.double (0 : UInt64)), .second] [(.double (FP.l2d ((0 : Int64) + x0))), (.double (FP.l2d ((0 : Int64) + y0)))])) _
      refine XS.ddivS X267.here hx rfl (hb hby d5_101) rfl (own_nnan hc) rfl ?_
      show Steps p.tables e below (T267.setTop (mkF m 102 #[.val (.ref a1), .val (.int (1 : Int32)), .val (.ref b2), .val (.ref b3), .val (.long ((0 : Int64) + x0)), .second, .val (.long ((0 : Int64) + y0)), .second, .val (.double (0 : UInt64)), .second] [(.double (FP.ddiv (FP.l2d ((0 : Int64) + y0)) (FP.l2d ((0 : Int64) + x0))))])) _
      refine XS.dstore X267.here hx rfl (hb hby d5_102) rfl (l' := #[.val (.ref a1), .val (.int (1 : Int32)), .val (.ref b2), .val (.ref b3), .val (.long ((0 : Int64) + x0)), .second, .val (.long ((0 : Int64) + y0)), .second, .val (.double (FP.ddiv (FP.l2d ((0 : Int64) + y0)) (FP.l2d ((0 : Int64) + x0)))), .second]) rfl ?_
      exact hk
    · skip
      have er : own_ratio x0 y0 = 0 := if_neg (fun q => hc (by rw [eh]; exact q))
      rw [er]
      intro target hk
      show Steps p.tables e below (T267.setTop (mkF m 85 #[.val (.ref a1), .val (.int (1 : Int32)), .val (.ref b2), .val (.ref b3), .val (.long ((0 : Int64) + x0)), .second, .val (.long ((0 : Int64) + y0)), .second, .val (.int ((0 : Int32) + (1 : Int32))), .unset] [])) _
      refine XS.dconst0 X267.here hx rfl (v := 0) (hb hby d5_85) (by decide +kernel) ?_
      show Steps p.tables e below (T267.setTop (mkF m 86 #[.val (.ref a1), .val (.int (1 : Int32)), .val (.ref b2), .val (.ref b3), .val (.long ((0 : Int64) + x0)), .second, .val (.long ((0 : Int64) + y0)), .second, .val (.int ((0 : Int32) + (1 : Int32))), .unset] [(.double (0 : UInt64))])) _
      refine XS.dstore X267.here hx rfl (hb hby d5_86) rfl (l' := #[.val (.ref a1), .val (.int (1 : Int32)), .val (.ref b2), .val (.ref b3), .val (.long ((0 : Int64) + x0)), .second, .val (.long ((0 : Int64) + y0)), .second, .val (.double (0 : UInt64)), .second]) rfl ?_
      show Steps p.tables e below (T267.setTop (mkF m 88 #[.val (.ref a1), .val (.int (1 : Int32)), .val (.ref b2), .val (.ref b3), .val (.long ((0 : Int64) + x0)), .second, .val (.long ((0 : Int64) + y0)), .second, .val (.double (0 : UInt64)), .second] [])) _
      refine XS.lload X267.here hx rfl (hb hby d5_88) rfl ?_
      show Steps p.tables e below (T267.setTop (mkF m 90 #[.val (.ref a1), .val (.int (1 : Int32)), .val (.ref b2), .val (.ref b3), .val (.long ((0 : Int64) + x0)), .second, .val (.long ((0 : Int64) + y0)), .second, .val (.double (0 : UInt64)), .second] [(.long ((0 : Int64) + x0))])) _
      refine XS.lconst X267.here hx rfl (hb hby d5_90) ?_
      show Steps p.tables e below (T267.setTop (mkF m 91 #[.val (.ref a1), .val (.int (1 : Int32)), .val (.ref b2), .val (.ref b3), .val (.long ((0 : Int64) + x0)), .second, .val (.long ((0 : Int64) + y0)), .second, .val (.double (0 : UInt64)), .second] [(.long (0 : Int64)), (.long ((0 : Int64) + x0))])) _
      refine XS.lcmp X267.here hx rfl (hb hby d5_91) rfl ?_
      show Steps p.tables e below (T267.setTop (mkF m 92 #[.val (.ref a1), .val (.int (1 : Int32)), .val (.ref b2), .val (.ref b3), .val (.long ((0 : Int64) + x0)), .second, .val (.long ((0 : Int64) + y0)), .second, .val (.double (0 : UInt64)), .second] [(.int (lcmpW ((0 : Int64) + x0) (0 : Int64)))])) _
      refine XS.ifYes X267.here hx rfl (pc0 := 92) (pc' := 104) rfl (hb hby d5_92) rfl ((if0 _ _).trans (flt (mt (lw_gt _ _).mp hc)).2.2.2) (by decide) (by decide) ?_
      exact hk
  obtain ⟨T271, h271, X271, e271, E271, A271, D271, -, st271⟩ := newO X267 hx hZ hown (hw _ (List.mem_of_getElem? (i := 60) rfl)) (hw _ (List.mem_of_getElem? (i := 61) rfl)) (hw _ (List.mem_of_getElem? (i := 62) rfl)) rfl (g := (mkF m 104 #[.val (.ref a1), .val (.int (1 : Int32)), .val (.ref b2), .val (.ref b3), .val (.long ((0 : Int64) + x0)), .second, .val (.long ((0 : Int64) + y0)), .second, .val (.double (own_ratio x0 y0)), .second] [])) rfl (hb hby d5_104) (by decide) (by decide)
  obtain ⟨b271, g271⟩ : ∃ z, z = T267.heap.size := ⟨_, rfl⟩
  rw [← g271] at A271 D271 st271
  have ge_b271 : n0 ≤ b271 := Nat.le_trans Z268 (Nat.le_of_eq g271.symm)
  have sz_b271 : h0.size ≤ b271 := Nat.le_trans K269.1 (Nat.le_of_eq g271.symm)
  have Z272 : n0 ≤ h271.size := Nat.le_trans Z268 E271.1
  have K273 : Keep h0 h271 [] := K269.ext E271
  have f274 := (((((F2.ext E251).ext E257).keep K263 (ninS na2 nin0)).keep K267 (ninS na3 nin0)).ext E271)
  obtain ⟨T275, X275, e275, st275⟩ := getF X271 hx hZ hown (host := "") (Or.inl (hw _ (List.mem_of_getElem? (i := 17) rfl))) Via.refl e271 f274 (g := (mkF m 109 #[.val (.ref a1), .val (.int (1 : Int32)), .val (.ref b2), .val (.ref b3), .val (.long ((0 : Int64) + x0)), .second, .val (.long ((0 : Int64) + y0)), .second, .val (.double (own_ratio x0 y0)), .second] [(.ref a1), (.ref b271), (.ref b271)])) rfl rfl (hb hby d5_109)
  have f276 := (((((F3.ext E251).ext E257).keep K263 (ninS na2 nin0)).keep K267 (ninS na3 nin0)).ext E271)
  obtain ⟨T277, X277, e277, st277⟩ := getF X275 hx hZ hown (host := "") (Or.inl (hw _ (List.mem_of_getElem? (i := 19) rfl))) Via.refl e275 f276 (g := (mkF m 113 #[.val (.ref a1), .val (.int (1 : Int32)), .val (.ref b2), .val (.ref b3), .val (.long ((0 : Int64) + x0)), .second, .val (.long ((0 : Int64) + y0)), .second, .val (.double (own_ratio x0 y0)), .second] [(.ref a1), (.long (1 : Int64)), (.ref b271), (.ref b271)])) rfl rfl (hb hby d5_113)
  have f278 := (((((X00.ext E251).ext E257).keep K263 (allS ge_b2 all0)).keep K267 (allS ge_b3 all0)).ext E271)
  have f279 := ((V263.keep K267 (ninS n23 nin0)).ext E271)
  obtain ⟨v280, vmx280, ⟨T280, L280, k280, n280⟩, -, X280, ⟨Lc280, hQ280, l280, y280, z280⟩, st280⟩ := Jvm.LawKit.callS X277 hx (y := (⟨"com/example/nosy_pool/nosypool/CheckoutHistory", "percentileMs", "([JI)J"⟩ : MethodName)) hown (mvT hZ (hw _ (List.mem_of_getElem? (i := 63) rfl))) (mvT hZ (hw _ (List.mem_of_getElem? (i := 64) rfl))) (mvT hZ (hw _ (List.mem_of_getElem? (i := 2) rfl))) (mvT hZ (hw _ (List.mem_of_getElem? (i := 65) rfl))) (by decide) (backOf (W := 6) (rmPm1_50 l Z a0 hw [] b2 k2 x0 x0 tu h271 n0 Z272 f279 O6 ET FT1 FT2 f278) hZ (hw _ (List.mem_of_getElem? (i := 65) rfl)) (hw _ (List.mem_of_getElem? (i := 2) rfl)) (by decide) (by decide)) (g := (mkF m 119 #[.val (.ref a1), .val (.int (1 : Int32)), .val (.ref b2), .val (.ref b3), .val (.long ((0 : Int64) + x0)), .second, .val (.long ((0 : Int64) + y0)), .second, .val (.double (own_ratio x0 y0)), .second] [(.int (50 : Int32)), (.ref b2), (.long rb), (.long (1 : Int64)), (.ref b271), (.ref b271)])) rfl (by rw [hml]; rfl) (argsL := [(.ref b2), (.int (50 : Int32))]) (rest := [(.long rb), (.long (1 : Int64)), (.ref b271), (.ref b271)]) (lenOf own_pd10 rfl) rfl (by show 2 * 0 + _ ≤ _; exact Nat.le_of_eq rfl) (hb hby d5_119) (fun _ _ => ⟨rfl, e277, (by decide : 3 + 0 ≤ _), (by decide : 9 + 0 ≤ _)⟩)
  dsimp only [Pt.U, Pt.locs, Pt.cells, Pt.slots] at X280 l280 y280 z280 st280 hQ280
  subst l280 y280 z280
  obtain ⟨rfl, Nq280, eh280⟩ := hQ280
  have N280 := Fr.app N267 Nq280
  obtain ⟨v281, vmx281, ⟨T281, L281, k281, n281⟩, -, X281, ⟨Lc281, hQ281, l281, y281, z281⟩, st281⟩ := Jvm.LawKit.callS X280 hx (y := (⟨"com/example/nosy_pool/nosypool/CheckoutHistory", "percentileMs", "([JI)J"⟩ : MethodName)) hown (mvT hZ (hw _ (List.mem_of_getElem? (i := 63) rfl))) (mvT hZ (hw _ (List.mem_of_getElem? (i := 64) rfl))) (mvT hZ (hw _ (List.mem_of_getElem? (i := 2) rfl))) (mvT hZ (hw _ (List.mem_of_getElem? (i := 65) rfl))) (by decide) (backOf (W := 8) (rmPm1_99 l Z a0 hw [] b2 k2 x0 x0 tu h271 n0 Z272 f279 O6 ET FT1 FT2 f278) hZ (hw _ (List.mem_of_getElem? (i := 65) rfl)) (hw _ (List.mem_of_getElem? (i := 2) rfl)) (by decide) (by decide)) (g := (mkF m 125 #[.val (.ref a1), .val (.int (1 : Int32)), .val (.ref b2), .val (.ref b3), .val (.long ((0 : Int64) + x0)), .second, .val (.long ((0 : Int64) + y0)), .second, .val (.double (own_ratio x0 y0)), .second] [(.int (99 : Int32)), (.ref b2), (.long (x0 / (1000000 : Int64))), (.long rb), (.long (1 : Int64)), (.ref b271), (.ref b271)])) rfl (by rw [hml]; rfl) (argsL := [(.ref b2), (.int (99 : Int32))]) (rest := [(.long (x0 / (1000000 : Int64))), (.long rb), (.long (1 : Int64)), (.ref b271), (.ref b271)]) (lenOf own_pd10 rfl) rfl (by show 2 * 0 + _ ≤ _; exact Nat.le_of_eq rfl) (hb hby d5_125) (fun _ _ => ⟨rfl, eh280, (by decide : 3 + 0 ≤ _), (by decide : 9 + 0 ≤ _)⟩)
  dsimp only [Pt.U, Pt.locs, Pt.cells, Pt.slots] at X281 l281 y281 z281 st281 hQ281
  subst l281 y281 z281
  obtain ⟨rfl, Nq281, eh281⟩ := hQ281
  have N281 := Fr.app N280 Nq281
  have f282 := (V267.ext E271)
  obtain ⟨v283, vmx283, ⟨T283, L283, k283, n283⟩, -, X283, ⟨Lc283, hQ283, l283, y283, z283⟩, st283⟩ := Jvm.LawKit.callS X281 hx (y := (⟨"com/example/nosy_pool/nosypool/CheckoutHistory", "percentileMs", "([JI)J"⟩ : MethodName)) hown (mvT hZ (hw _ (List.mem_of_getElem? (i := 63) rfl))) (mvT hZ (hw _ (List.mem_of_getElem? (i := 64) rfl))) (mvT hZ (hw _ (List.mem_of_getElem? (i := 2) rfl))) (mvT hZ (hw _ (List.mem_of_getElem? (i := 65) rfl))) (by decide) (backOf (W := 10) (rmPm1_50 l Z a0 hw [] b3 k3 y0 y0 tu h271 n0 Z272 f282 O6 ET FT1 FT2 f278) hZ (hw _ (List.mem_of_getElem? (i := 65) rfl)) (hw _ (List.mem_of_getElem? (i := 2) rfl)) (by decide) (by decide)) (g := (mkF m 131 #[.val (.ref a1), .val (.int (1 : Int32)), .val (.ref b2), .val (.ref b3), .val (.long ((0 : Int64) + x0)), .second, .val (.long ((0 : Int64) + y0)), .second, .val (.double (own_ratio x0 y0)), .second] [(.int (50 : Int32)), (.ref b3), (.long (x0 / (1000000 : Int64))), (.long (x0 / (1000000 : Int64))), (.long rb), (.long (1 : Int64)), (.ref b271), (.ref b271)])) rfl (by rw [hml]; rfl) (argsL := [(.ref b3), (.int (50 : Int32))]) (rest := [(.long (x0 / (1000000 : Int64))), (.long (x0 / (1000000 : Int64))), (.long rb), (.long (1 : Int64)), (.ref b271), (.ref b271)]) (lenOf own_pd10 rfl) rfl (by show 2 * 0 + _ ≤ _; exact Nat.le_of_eq rfl) (hb hby d5_131) (fun _ _ => ⟨rfl, eh281, (by decide : 3 + 0 ≤ _), (by decide : 9 + 0 ≤ _)⟩)
  dsimp only [Pt.U, Pt.locs, Pt.cells, Pt.slots] at X283 l283 y283 z283 st283 hQ283
  subst l283 y283 z283
  obtain ⟨rfl, Nq283, eh283⟩ := hQ283
  have N283 := Fr.app N281 Nq283
  obtain ⟨v284, vmx284, ⟨T284, L284, k284, n284⟩, -, X284, ⟨Lc284, hQ284, l284, y284, z284⟩, st284⟩ := Jvm.LawKit.callS X283 hx (y := (⟨"com/example/nosy_pool/nosypool/CheckoutHistory", "percentileMs", "([JI)J"⟩ : MethodName)) hown (mvT hZ (hw _ (List.mem_of_getElem? (i := 63) rfl))) (mvT hZ (hw _ (List.mem_of_getElem? (i := 64) rfl))) (mvT hZ (hw _ (List.mem_of_getElem? (i := 2) rfl))) (mvT hZ (hw _ (List.mem_of_getElem? (i := 65) rfl))) (by decide) (backOf (W := 12) (rmPm1_99 l Z a0 hw [] b3 k3 y0 y0 tu h271 n0 Z272 f282 O6 ET FT1 FT2 f278) hZ (hw _ (List.mem_of_getElem? (i := 65) rfl)) (hw _ (List.mem_of_getElem? (i := 2) rfl)) (by decide) (by decide)) (g := (mkF m 137 #[.val (.ref a1), .val (.int (1 : Int32)), .val (.ref b2), .val (.ref b3), .val (.long ((0 : Int64) + x0)), .second, .val (.long ((0 : Int64) + y0)), .second, .val (.double (own_ratio x0 y0)), .second] [(.int (99 : Int32)), (.ref b3), (.long (y0 / (1000000 : Int64))), (.long (x0 / (1000000 : Int64))), (.long (x0 / (1000000 : Int64))), (.long rb), (.long (1 : Int64)), (.ref b271), (.ref b271)])) rfl (by rw [hml]; rfl) (argsL := [(.ref b3), (.int (99 : Int32))]) (rest := [(.long (y0 / (1000000 : Int64))), (.long (x0 / (1000000 : Int64))), (.long (x0 / (1000000 : Int64))), (.long rb), (.long (1 : Int64)), (.ref b271), (.ref b271)]) (lenOf own_pd10 rfl) rfl (by show 2 * 0 + _ ≤ _; exact Nat.le_of_eq rfl) (hb hby d5_137) (fun _ _ => ⟨rfl, eh283, (by decide : 3 + 0 ≤ _), (by decide : 9 + 0 ≤ _)⟩)
  dsimp only [Pt.U, Pt.locs, Pt.cells, Pt.slots] at X284 l284 y284 z284 st284 hQ284
  subst l284 y284 z284
  obtain ⟨rfl, Nq284, eh284⟩ := hQ284
  have N284 := Fr.app N283 Nq284
  obtain ⟨v285, vmx285, ⟨T285, L285, k285, n285⟩, -, X285, ⟨Lc285, hQ285, l285, y285, z285⟩, st285⟩ := X284.specialBack hx (y := (⟨"com/example/nosy_pool/nosypool/CheckoutStatistics", "<init>", "(JJJJJJD)V"⟩ : MethodName)) rfl hown (mvT hZ (hw _ (List.mem_of_getElem? (i := 78) rfl))) (mvT hZ (hw _ (List.mem_of_getElem? (i := 79) rfl))) (mvT hZ (hw _ (List.mem_of_getElem? (i := 80) rfl))) (by decide) (backOf (W := 1) (rmCS l Z a0 hw [] b271 1 rb (x0 / (1000000 : Int64)) (x0 / (1000000 : Int64)) (y0 / (1000000 : Int64)) (y0 / (1000000 : Int64)) (own_ratio x0 y0) _ _ _ _ _ _ _ h271 n0 Z272 ge_b271 ⟨A271, (D271 (Or.inr (hw _ (List.mem_of_getElem? (i := 88) rfl))) (ty := .long) (by decide)), (D271 (Or.inr (hw _ (List.mem_of_getElem? (i := 90) rfl))) (ty := .long) (by decide)), (D271 (Or.inr (hw _ (List.mem_of_getElem? (i := 92) rfl))) (ty := .long) (by decide)), (D271 (Or.inr (hw _ (List.mem_of_getElem? (i := 94) rfl))) (ty := .long) (by decide)), (D271 (Or.inr (hw _ (List.mem_of_getElem? (i := 96) rfl))) (ty := .long) (by decide)), (D271 (Or.inr (hw _ (List.mem_of_getElem? (i := 98) rfl))) (ty := .long) (by decide)), (D271 (Or.inr (hw _ (List.mem_of_getElem? (i := 100) rfl))) (ty := .double) (by decide))⟩) hZ (hw _ (List.mem_of_getElem? (i := 80) rfl)) (hw _ (List.mem_of_getElem? (i := 62) rfl)) (by decide) (by decide)) (g := (mkF m 142 #[.val (.ref a1), .val (.int (1 : Int32)), .val (.ref b2), .val (.ref b3), .val (.long ((0 : Int64) + x0)), .second, .val (.long ((0 : Int64) + y0)), .second, .val (.double (own_ratio x0 y0)), .second] [(.double (own_ratio x0 y0)), (.long (y0 / (1000000 : Int64))), (.long (y0 / (1000000 : Int64))), (.long (x0 / (1000000 : Int64))), (.long (x0 / (1000000 : Int64))), (.long rb), (.long (1 : Int64)), (.ref b271), (.ref b271)])) rfl (by rw [hml]; rfl) (Steps.refl _) (a := b271) (argsL := [(.long (1 : Int64)), (.long rb), (.long (x0 / (1000000 : Int64))), (.long (x0 / (1000000 : Int64))), (.long (y0 / (1000000 : Int64))), (.long (y0 / (1000000 : Int64))), (.double (own_ratio x0 y0))]) (rest := [(.ref b271)]) (lenOf own_pd11 rfl) rfl (by show 2 * 0 + _ ≤ _; exact Nat.le_of_eq rfl) (hb hby d5_142) (fun _ _ => ⟨rfl, eh284, (by decide : 3 + 0 ≤ _), (by decide : 9 + 0 ≤ _)⟩)
  dsimp only [Pt.U, Pt.locs, Pt.cells, Pt.slots] at X285 l285 y285 z285 st285 hQ285
  subst l285 y285 z285
  obtain ⟨rfl, Nq285, K285, F285⟩ := hQ285
  have N285 := Fr.app N284 Nq285
  have Z286 : n0 ≤ T285.heap.size := Nat.le_trans Z272 K285.1
  have K287 : Keep h0 T285.heap [] := K273.trans K285 (allS (Or.inr sz_b271) all0)
  obtain ⟨fs, hr, hrun, hended, hW, hsame⟩ := X285.leave (v := some (.ref b271)) (fun h => by rw [hret0] at h; cases h)
  refine ⟨_, _, pre0 _ ?_, hrun, hended, _, _, rfl, ?_, ⟨_, rfl⟩, hW, hsame.mono (by decide) (by decide)⟩
  · show Steps p.tables e below (s₁.setTop (mkF m 0 #[.val (.ref a1), .unset, .unset, .unset, .unset, .unset, .unset, .unset, .unset, .unset] [])) _
    refine XS.aloadN X0.here hx rfl (hb hby d5_0) rfl rfl ?_
    show Steps p.tables e below (s₁.setTop (mkF m 1 #[.val (.ref a1), .unset, .unset, .unset, .unset, .unset, .unset, .unset, .unset, .unset] [(.ref a1)])) _
    refine st247 _ ?_
    show Steps p.tables e below (T247.setTop (mkF m 4 #[.val (.ref a1), .unset, .unset, .unset, .unset, .unset, .unset, .unset, .unset, .unset] [(.long (1 : Int64))])) _
    refine X247.ldc2Long hx hown (mvT hZ (hw _ (List.mem_of_getElem? (i := 26) rfl))) (g := (mkF m 4 #[.val (.ref a1), .unset, .unset, .unset, .unset, .unset, .unset, .unset, .unset, .unset] [(.long (1 : Int64))])) rfl (hb hby d5_4) _ ?_
    show Steps p.tables e below (T247.setTop (mkF m 7 #[.val (.ref a1), .unset, .unset, .unset, .unset, .unset, .unset, .unset, .unset, .unset] [(.long (1024 : Int64)), (.long (1 : Int64))])) _
    refine st248 _ ?_
    show Steps p.tables e below (T248.setTop (mkF m 10 #[.val (.ref a1), .unset, .unset, .unset, .unset, .unset, .unset, .unset, .unset, .unset] [(.long (if (1024 : Int64) < (1 : Int64) then (1024 : Int64) else (1 : Int64)))])) _
    refine st249 _ ?_
    show Steps p.tables e below (T248.setTop (mkF m 12 #[.val (.ref a1), .val (.int (1 : Int32)), .unset, .unset, .unset, .unset, .unset, .unset, .unset, .unset] [])) _
    refine XS.iloadN X248.here hx rfl (hb hby d5_12) rfl ?_
    show Steps p.tables e below (T248.setTop (mkF m 13 #[.val (.ref a1), .val (.int (1 : Int32)), .unset, .unset, .unset, .unset, .unset, .unset, .unset, .unset] [(.int (1 : Int32))])) _
    refine XS.ifYes X248.here hx rfl (pc0 := 13) (pc' := 20) rfl (hb hby d5_13) rfl ((if0 _ _).trans (feq (by decide)).2) (by decide) (by decide) ?_
    show Steps p.tables e below (T248.setTop (mkF m 20 #[.val (.ref a1), .val (.int (1 : Int32)), .unset, .unset, .unset, .unset, .unset, .unset, .unset, .unset] [])) _
    refine XS.aloadN X248.here hx rfl (hb hby d5_20) rfl rfl ?_
    show Steps p.tables e below (T248.setTop (mkF m 21 #[.val (.ref a1), .val (.int (1 : Int32)), .unset, .unset, .unset, .unset, .unset, .unset, .unset, .unset] [(.ref a1)])) _
    refine st250 _ ?_
    show Steps p.tables e below (T250.setTop (mkF m 24 #[.val (.ref a1), .val (.int (1 : Int32)), .unset, .unset, .unset, .unset, .unset, .unset, .unset, .unset] [(.ref xh)])) _
    refine XS.iloadN X250.here hx rfl (hb hby d5_24) rfl ?_
    show Steps p.tables e below (T250.setTop (mkF m 25 #[.val (.ref a1), .val (.int (1 : Int32)), .unset, .unset, .unset, .unset, .unset, .unset, .unset, .unset] [(.int (1 : Int32)), (.ref xh)])) _
    refine st251 _ ?_
    show Steps p.tables e below (T251.setTop (mkF m 28 #[.val (.ref a1), .val (.int (1 : Int32)), .unset, .unset, .unset, .unset, .unset, .unset, .unset, .unset] [(.ref b2)])) _
    refine XS.astoreN X251.here hx rfl (hb hby d5_28) rfl rfl (l' := #[.val (.ref a1), .val (.int (1 : Int32)), .val (.ref b2), .unset, .unset, .unset, .unset, .unset, .unset, .unset]) rfl ?_
    show Steps p.tables e below (T251.setTop (mkF m 29 #[.val (.ref a1), .val (.int (1 : Int32)), .val (.ref b2), .unset, .unset, .unset, .unset, .unset, .unset, .unset] [])) _
    refine XS.aloadN X251.here hx rfl (hb hby d5_29) rfl rfl ?_
    show Steps p.tables e below (T251.setTop (mkF m 30 #[.val (.ref a1), .val (.int (1 : Int32)), .val (.ref b2), .unset, .unset, .unset, .unset, .unset, .unset, .unset] [(.ref a1)])) _
    refine st255 _ ?_
    show Steps p.tables e below (T255.setTop (mkF m 33 #[.val (.ref a1), .val (.int (1 : Int32)), .val (.ref b2), .unset, .unset, .unset, .unset, .unset, .unset, .unset] [(.ref xb)])) _
    refine XS.iloadN X255.here hx rfl (hb hby d5_33) rfl ?_
    show Steps p.tables e below (T255.setTop (mkF m 34 #[.val (.ref a1), .val (.int (1 : Int32)), .val (.ref b2), .unset, .unset, .unset, .unset, .unset, .unset, .unset] [(.int (1 : Int32)), (.ref xb)])) _
    refine st257 _ ?_
    show Steps p.tables e below (T257.setTop (mkF m 37 #[.val (.ref a1), .val (.int (1 : Int32)), .val (.ref b2), .unset, .unset, .unset, .unset, .unset, .unset, .unset] [(.ref b3)])) _
    refine XS.astoreN X257.here hx rfl (hb hby d5_37) rfl rfl (l' := #[.val (.ref a1), .val (.int (1 : Int32)), .val (.ref b2), .val (.ref b3), .unset, .unset, .unset, .unset, .unset, .unset]) rfl ?_
    show Steps p.tables e below (T257.setTop (mkF m 38 #[.val (.ref a1), .val (.int (1 : Int32)), .val (.ref b2), .val (.ref b3), .unset, .unset, .unset, .unset, .unset, .unset] [])) _
    refine XS.lconst X257.here hx rfl (hb hby d5_38) ?_
    show Steps p.tables e below (T257.setTop (mkF m 39 #[.val (.ref a1), .val (.int (1 : Int32)), .val (.ref b2), .val (.ref b3), .unset, .unset, .unset, .unset, .unset, .unset] [(.long (0 : Int64))])) _
    refine XS.lstore X257.here hx rfl (hb hby d5_39) rfl (l' := #[.val (.ref a1), .val (.int (1 : Int32)), .val (.ref b2), .val (.ref b3), .val (.long (0 : Int64)), .second, .unset, .unset, .unset, .unset]) rfl ?_
    show Steps p.tables e below (T257.setTop (mkF m 41 #[.val (.ref a1), .val (.int (1 : Int32)), .val (.ref b2), .val (.ref b3), .val (.long (0 : Int64)), .second, .unset, .unset, .unset, .unset] [])) _
    refine XS.lconst X257.here hx rfl (hb hby d5_41) ?_
    show Steps p.tables e below (T257.setTop (mkF m 42 #[.val (.ref a1), .val (.int (1 : Int32)), .val (.ref b2), .val (.ref b3), .val (.long (0 : Int64)), .second, .unset, .unset, .unset, .unset] [(.long (0 : Int64))])) _
    refine XS.lstore X257.here hx rfl (hb hby d5_42) rfl (l' := #[.val (.ref a1), .val (.int (1 : Int32)), .val (.ref b2), .val (.ref b3), .val (.long (0 : Int64)), .second, .val (.long (0 : Int64)), .second, .unset, .unset]) rfl ?_
    show Steps p.tables e below (T257.setTop (mkF m 44 #[.val (.ref a1), .val (.int (1 : Int32)), .val (.ref b2), .val (.ref b3), .val (.long (0 : Int64)), .second, .val (.long (0 : Int64)), .second, .unset, .unset] [])) _
    refine XS.iconst X257.here hx rfl (hb hby d5_44) ?_
    show Steps p.tables e below (T257.setTop (mkF m 45 #[.val (.ref a1), .val (.int (1 : Int32)), .val (.ref b2), .val (.ref b3), .val (.long (0 : Int64)), .second, .val (.long (0 : Int64)), .second, .unset, .unset] [(.int (0 : Int32))])) _
    refine XS.istore X257.here hx rfl (hb hby d5_45) rfl (l' := #[.val (.ref a1), .val (.int (1 : Int32)), .val (.ref b2), .val (.ref b3), .val (.long (0 : Int64)), .second, .val (.long (0 : Int64)), .second, .val (.int (0 : Int32)), .unset]) rfl ?_
    show Steps p.tables e below (T257.setTop (mkF m 47 #[.val (.ref a1), .val (.int (1 : Int32)), .val (.ref b2), .val (.ref b3), .val (.long (0 : Int64)), .second, .val (.long (0 : Int64)), .second, .val (.int (0 : Int32)), .unset] [])) _
    refine XS.iload X257.here hx rfl (hb hby d5_47) rfl ?_
    show Steps p.tables e below (T257.setTop (mkF m 49 #[.val (.ref a1), .val (.int (1 : Int32)), .val (.ref b2), .val (.ref b3), .val (.long (0 : Int64)), .second, .val (.long (0 : Int64)), .second, .val (.int (0 : Int32)), .unset] [(.int (0 : Int32))])) _
    refine XS.iloadN X257.here hx rfl (hb hby d5_49) rfl ?_
    show Steps p.tables e below (T257.setTop (mkF m 50 #[.val (.ref a1), .val (.int (1 : Int32)), .val (.ref b2), .val (.ref b3), .val (.long (0 : Int64)), .second, .val (.long (0 : Int64)), .second, .val (.int (0 : Int32)), .unset] [(.int (1 : Int32)), (.int (0 : Int32))])) _
    refine XS.icmpNo X257.here hx rfl (hb hby d5_50) rfl (tlt (by decide)).2.1 ?_
    show Steps p.tables e below (T257.setTop (mkF m 53 #[.val (.ref a1), .val (.int (1 : Int32)), .val (.ref b2), .val (.ref b3), .val (.long (0 : Int64)), .second, .val (.long (0 : Int64)), .second, .val (.int (0 : Int32)), .unset] [])) _
    refine XS.lload X257.here hx rfl (hb hby d5_53) rfl ?_
    show Steps p.tables e below (T257.setTop (mkF m 55 #[.val (.ref a1), .val (.int (1 : Int32)), .val (.ref b2), .val (.ref b3), .val (.long (0 : Int64)), .second, .val (.long (0 : Int64)), .second, .val (.int (0 : Int32)), .unset] [(.long (0 : Int64))])) _
    refine XS.aloadN X257.here hx rfl (hb hby d5_55) rfl rfl ?_
    show Steps p.tables e below (T257.setTop (mkF m 56 #[.val (.ref a1), .val (.int (1 : Int32)), .val (.ref b2), .val (.ref b3), .val (.long (0 : Int64)), .second, .val (.long (0 : Int64)), .second, .val (.int (0 : Int32)), .unset] [(.ref b2), (.long (0 : Int64))])) _
    refine XS.iload X257.here hx rfl (hb hby d5_56) rfl ?_
    show Steps p.tables e below (T257.setTop (mkF m 58 #[.val (.ref a1), .val (.int (1 : Int32)), .val (.ref b2), .val (.ref b3), .val (.long (0 : Int64)), .second, .val (.long (0 : Int64)), .second, .val (.int (0 : Int32)), .unset] [(.int (0 : Int32)), (.ref b2), (.long (0 : Int64))])) _
    refine X257.laload hx (j := (0 : Int32)) (v := (.long x0)) (by rw [show T257.heap = _ from rfl]; exact Ar261.1) (State.isArrayOf_alike hZ.alike Ar261.2.1) Ar261.2.2 hin261 hat261 (g := (mkF m 58 #[.val (.ref a1), .val (.int (1 : Int32)), .val (.ref b2), .val (.ref b3), .val (.long (0 : Int64)), .second, .val (.long (0 : Int64)), .second, .val (.int (0 : Int32)), .unset] [(.int (0 : Int32)), (.ref b2), (.long (0 : Int64))])) rfl rfl (hb hby d5_58) _ ?_
    show Steps p.tables e below (T257.setTop (mkF m 59 #[.val (.ref a1), .val (.int (1 : Int32)), .val (.ref b2), .val (.ref b3), .val (.long (0 : Int64)), .second, .val (.long (0 : Int64)), .second, .val (.int (0 : Int32)), .unset] [(.long x0), (.long (0 : Int64))])) _
    refine XS.ladd X257.here hx rfl (hb hby d5_59) rfl ?_
    show Steps p.tables e below (T257.setTop (mkF m 60 #[.val (.ref a1), .val (.int (1 : Int32)), .val (.ref b2), .val (.ref b3), .val (.long (0 : Int64)), .second, .val (.long (0 : Int64)), .second, .val (.int (0 : Int32)), .unset] [(.long ((0 : Int64) + x0))])) _
    refine XS.lstore X257.here hx rfl (hb hby d5_60) rfl (l' := #[.val (.ref a1), .val (.int (1 : Int32)), .val (.ref b2), .val (.ref b3), .val (.long ((0 : Int64) + x0)), .second, .val (.long (0 : Int64)), .second, .val (.int (0 : Int32)), .unset]) rfl ?_
    show Steps p.tables e below (T257.setTop (mkF m 62 #[.val (.ref a1), .val (.int (1 : Int32)), .val (.ref b2), .val (.ref b3), .val (.long ((0 : Int64) + x0)), .second, .val (.long (0 : Int64)), .second, .val (.int (0 : Int32)), .unset] [])) _
    refine XS.lload X257.here hx rfl (hb hby d5_62) rfl ?_
    show Steps p.tables e below (T257.setTop (mkF m 64 #[.val (.ref a1), .val (.int (1 : Int32)), .val (.ref b2), .val (.ref b3), .val (.long ((0 : Int64) + x0)), .second, .val (.long (0 : Int64)), .second, .val (.int (0 : Int32)), .unset] [(.long (0 : Int64))])) _
    refine XS.aloadN X257.here hx rfl (hb hby d5_64) rfl rfl ?_
    show Steps p.tables e below (T257.setTop (mkF m 65 #[.val (.ref a1), .val (.int (1 : Int32)), .val (.ref b2), .val (.ref b3), .val (.long ((0 : Int64) + x0)), .second, .val (.long (0 : Int64)), .second, .val (.int (0 : Int32)), .unset] [(.ref b3), (.long (0 : Int64))])) _
    refine XS.iload X257.here hx rfl (hb hby d5_65) rfl ?_
    show Steps p.tables e below (T257.setTop (mkF m 67 #[.val (.ref a1), .val (.int (1 : Int32)), .val (.ref b2), .val (.ref b3), .val (.long ((0 : Int64) + x0)), .second, .val (.long (0 : Int64)), .second, .val (.int (0 : Int32)), .unset] [(.int (0 : Int32)), (.ref b3), (.long (0 : Int64))])) _
    refine X257.laload hx (j := (0 : Int32)) (v := (.long y0)) (by rw [show T257.heap = _ from rfl]; exact Ar262.1) (State.isArrayOf_alike hZ.alike Ar262.2.1) Ar262.2.2 hin262 hat262 (g := (mkF m 67 #[.val (.ref a1), .val (.int (1 : Int32)), .val (.ref b2), .val (.ref b3), .val (.long ((0 : Int64) + x0)), .second, .val (.long (0 : Int64)), .second, .val (.int (0 : Int32)), .unset] [(.int (0 : Int32)), (.ref b3), (.long (0 : Int64))])) rfl rfl (hb hby d5_67) _ ?_
    show Steps p.tables e below (T257.setTop (mkF m 68 #[.val (.ref a1), .val (.int (1 : Int32)), .val (.ref b2), .val (.ref b3), .val (.long ((0 : Int64) + x0)), .second, .val (.long (0 : Int64)), .second, .val (.int (0 : Int32)), .unset] [(.long y0), (.long (0 : Int64))])) _
    refine XS.ladd X257.here hx rfl (hb hby d5_68) rfl ?_
    show Steps p.tables e below (T257.setTop (mkF m 69 #[.val (.ref a1), .val (.int (1 : Int32)), .val (.ref b2), .val (.ref b3), .val (.long ((0 : Int64) + x0)), .second, .val (.long (0 : Int64)), .second, .val (.int (0 : Int32)), .unset] [(.long ((0 : Int64) + y0))])) _
    refine XS.lstore X257.here hx rfl (hb hby d5_69) rfl (l' := #[.val (.ref a1), .val (.int (1 : Int32)), .val (.ref b2), .val (.ref b3), .val (.long ((0 : Int64) + x0)), .second, .val (.long ((0 : Int64) + y0)), .second, .val (.int (0 : Int32)), .unset]) rfl ?_
    show Steps p.tables e below (T257.setTop (mkF m 71 #[.val (.ref a1), .val (.int (1 : Int32)), .val (.ref b2), .val (.ref b3), .val (.long ((0 : Int64) + x0)), .second, .val (.long ((0 : Int64) + y0)), .second, .val (.int (0 : Int32)), .unset] [])) _
    refine XS.iinc X257.here hx rfl (hb hby d5_71) rfl (l' := #[.val (.ref a1), .val (.int (1 : Int32)), .val (.ref b2), .val (.ref b3), .val (.long ((0 : Int64) + x0)), .second, .val (.long ((0 : Int64) + y0)), .second, .val (.int ((0 : Int32) + (1 : Int32))), .unset]) rfl ?_
    show Steps p.tables e below (T257.setTop (mkF m 74 #[.val (.ref a1), .val (.int (1 : Int32)), .val (.ref b2), .val (.ref b3), .val (.long ((0 : Int64) + x0)), .second, .val (.long ((0 : Int64) + y0)), .second, .val (.int ((0 : Int32) + (1 : Int32))), .unset] [])) _
    refine XS.goto X257.here hx rfl (pc0 := 74) (pc' := 47) rfl (hb hby d5_74) (by decide) (by decide) ?_
    show Steps p.tables e below (T257.setTop (mkF m 47 #[.val (.ref a1), .val (.int (1 : Int32)), .val (.ref b2), .val (.ref b3), .val (.long ((0 : Int64) + x0)), .second, .val (.long ((0 : Int64) + y0)), .second, .val (.int ((0 : Int32) + (1 : Int32))), .unset] [])) _
    refine XS.iload X257.here hx rfl (hb hby d5_47) rfl ?_
    show Steps p.tables e below (T257.setTop (mkF m 49 #[.val (.ref a1), .val (.int (1 : Int32)), .val (.ref b2), .val (.ref b3), .val (.long ((0 : Int64) + x0)), .second, .val (.long ((0 : Int64) + y0)), .second, .val (.int ((0 : Int32) + (1 : Int32))), .unset] [(.int ((0 : Int32) + (1 : Int32)))])) _
    refine XS.iloadN X257.here hx rfl (hb hby d5_49) rfl ?_
    show Steps p.tables e below (T257.setTop (mkF m 50 #[.val (.ref a1), .val (.int (1 : Int32)), .val (.ref b2), .val (.ref b3), .val (.long ((0 : Int64) + x0)), .second, .val (.long ((0 : Int64) + y0)), .second, .val (.int ((0 : Int32) + (1 : Int32))), .unset] [(.int (1 : Int32)), (.int ((0 : Int32) + (1 : Int32)))])) _
    refine XS.icmpYes X257.here hx rfl (pc0 := 50) (pc' := 77) rfl (hb hby d5_50) rfl (flt (by decide)).2.1 (by decide) (by decide) ?_
    show Steps p.tables e below (T257.setTop (mkF m 77 #[.val (.ref a1), .val (.int (1 : Int32)), .val (.ref b2), .val (.ref b3), .val (.long ((0 : Int64) + x0)), .second, .val (.long ((0 : Int64) + y0)), .second, .val (.int ((0 : Int32) + (1 : Int32))), .unset] [])) _
    refine XS.aloadN X257.here hx rfl (hb hby d5_77) rfl rfl ?_
    show Steps p.tables e below (T257.setTop (mkF m 78 #[.val (.ref a1), .val (.int (1 : Int32)), .val (.ref b2), .val (.ref b3), .val (.long ((0 : Int64) + x0)), .second, .val (.long ((0 : Int64) + y0)), .second, .val (.int ((0 : Int32) + (1 : Int32))), .unset] [(.ref b2)])) _
    refine st263 _ ?_
    show Steps p.tables e below (T263.setTop (mkF m 81 #[.val (.ref a1), .val (.int (1 : Int32)), .val (.ref b2), .val (.ref b3), .val (.long ((0 : Int64) + x0)), .second, .val (.long ((0 : Int64) + y0)), .second, .val (.int ((0 : Int32) + (1 : Int32))), .unset] [])) _
    refine XS.aloadN X263.here hx rfl (hb hby d5_81) rfl rfl ?_
    show Steps p.tables e below (T263.setTop (mkF m 82 #[.val (.ref a1), .val (.int (1 : Int32)), .val (.ref b2), .val (.ref b3), .val (.long ((0 : Int64) + x0)), .second, .val (.long ((0 : Int64) + y0)), .second, .val (.int ((0 : Int32) + (1 : Int32))), .unset] [(.ref b3)])) _
    refine st267 _ ?_
    show Steps p.tables e below (T267.setTop (mkF m 85 #[.val (.ref a1), .val (.int (1 : Int32)), .val (.ref b2), .val (.ref b3), .val (.long ((0 : Int64) + x0)), .second, .val (.long ((0 : Int64) + y0)), .second, .val (.int ((0 : Int32) + (1 : Int32))), .unset] [])) _
    refine st270 _ ?_
    show Steps p.tables e below (T267.setTop (mkF m 104 #[.val (.ref a1), .val (.int (1 : Int32)), .val (.ref b2), .val (.ref b3), .val (.long ((0 : Int64) + x0)), .second, .val (.long ((0 : Int64) + y0)), .second, .val (.double (own_ratio x0 y0)), .second] [])) _
    refine st271 _ ?_
    show Steps p.tables e below (T271.setTop (mkF m 107 #[.val (.ref a1), .val (.int (1 : Int32)), .val (.ref b2), .val (.ref b3), .val (.long ((0 : Int64) + x0)), .second, .val (.long ((0 : Int64) + y0)), .second, .val (.double (own_ratio x0 y0)), .second] [(.ref b271)])) _
    refine XS.dup X271.here hx rfl (hb hby d5_107) rfl rfl ?_
    show Steps p.tables e below (T271.setTop (mkF m 108 #[.val (.ref a1), .val (.int (1 : Int32)), .val (.ref b2), .val (.ref b3), .val (.long ((0 : Int64) + x0)), .second, .val (.long ((0 : Int64) + y0)), .second, .val (.double (own_ratio x0 y0)), .second] [(.ref b271), (.ref b271)])) _
    refine XS.aloadN X271.here hx rfl (hb hby d5_108) rfl rfl ?_
    show Steps p.tables e below (T271.setTop (mkF m 109 #[.val (.ref a1), .val (.int (1 : Int32)), .val (.ref b2), .val (.ref b3), .val (.long ((0 : Int64) + x0)), .second, .val (.long ((0 : Int64) + y0)), .second, .val (.double (own_ratio x0 y0)), .second] [(.ref a1), (.ref b271), (.ref b271)])) _
    refine st275 _ ?_
    show Steps p.tables e below (T275.setTop (mkF m 112 #[.val (.ref a1), .val (.int (1 : Int32)), .val (.ref b2), .val (.ref b3), .val (.long ((0 : Int64) + x0)), .second, .val (.long ((0 : Int64) + y0)), .second, .val (.double (own_ratio x0 y0)), .second] [(.long (1 : Int64)), (.ref b271), (.ref b271)])) _
    refine XS.aloadN X275.here hx rfl (hb hby d5_112) rfl rfl ?_
    show Steps p.tables e below (T275.setTop (mkF m 113 #[.val (.ref a1), .val (.int (1 : Int32)), .val (.ref b2), .val (.ref b3), .val (.long ((0 : Int64) + x0)), .second, .val (.long ((0 : Int64) + y0)), .second, .val (.double (own_ratio x0 y0)), .second] [(.ref a1), (.long (1 : Int64)), (.ref b271), (.ref b271)])) _
    refine st277 _ ?_
    show Steps p.tables e below (T277.setTop (mkF m 116 #[.val (.ref a1), .val (.int (1 : Int32)), .val (.ref b2), .val (.ref b3), .val (.long ((0 : Int64) + x0)), .second, .val (.long ((0 : Int64) + y0)), .second, .val (.double (own_ratio x0 y0)), .second] [(.long rb), (.long (1 : Int64)), (.ref b271), (.ref b271)])) _
    refine XS.aloadN X277.here hx rfl (hb hby d5_116) rfl rfl ?_
    show Steps p.tables e below (T277.setTop (mkF m 117 #[.val (.ref a1), .val (.int (1 : Int32)), .val (.ref b2), .val (.ref b3), .val (.long ((0 : Int64) + x0)), .second, .val (.long ((0 : Int64) + y0)), .second, .val (.double (own_ratio x0 y0)), .second] [(.ref b2), (.long rb), (.long (1 : Int64)), (.ref b271), (.ref b271)])) _
    refine XS.bipush X277.here hx rfl (hb hby d5_117) ?_
    show Steps p.tables e below (T277.setTop (mkF m 119 #[.val (.ref a1), .val (.int (1 : Int32)), .val (.ref b2), .val (.ref b3), .val (.long ((0 : Int64) + x0)), .second, .val (.long ((0 : Int64) + y0)), .second, .val (.double (own_ratio x0 y0)), .second] [(.int (50 : Int32)), (.ref b2), (.long rb), (.long (1 : Int64)), (.ref b271), (.ref b271)])) _
    refine st280 _ ?_
    show Steps p.tables e below (T280.setTop (mkF m 122 #[.val (.ref a1), .val (.int (1 : Int32)), .val (.ref b2), .val (.ref b3), .val (.long ((0 : Int64) + x0)), .second, .val (.long ((0 : Int64) + y0)), .second, .val (.double (own_ratio x0 y0)), .second] [(.long (x0 / (1000000 : Int64))), (.long rb), (.long (1 : Int64)), (.ref b271), (.ref b271)])) _
    refine XS.aloadN X280.here hx rfl (hb hby d5_122) rfl rfl ?_
    show Steps p.tables e below (T280.setTop (mkF m 123 #[.val (.ref a1), .val (.int (1 : Int32)), .val (.ref b2), .val (.ref b3), .val (.long ((0 : Int64) + x0)), .second, .val (.long ((0 : Int64) + y0)), .second, .val (.double (own_ratio x0 y0)), .second] [(.ref b2), (.long (x0 / (1000000 : Int64))), (.long rb), (.long (1 : Int64)), (.ref b271), (.ref b271)])) _
    refine XS.bipush X280.here hx rfl (hb hby d5_123) ?_
    show Steps p.tables e below (T280.setTop (mkF m 125 #[.val (.ref a1), .val (.int (1 : Int32)), .val (.ref b2), .val (.ref b3), .val (.long ((0 : Int64) + x0)), .second, .val (.long ((0 : Int64) + y0)), .second, .val (.double (own_ratio x0 y0)), .second] [(.int (99 : Int32)), (.ref b2), (.long (x0 / (1000000 : Int64))), (.long rb), (.long (1 : Int64)), (.ref b271), (.ref b271)])) _
    refine st281 _ ?_
    show Steps p.tables e below (T281.setTop (mkF m 128 #[.val (.ref a1), .val (.int (1 : Int32)), .val (.ref b2), .val (.ref b3), .val (.long ((0 : Int64) + x0)), .second, .val (.long ((0 : Int64) + y0)), .second, .val (.double (own_ratio x0 y0)), .second] [(.long (x0 / (1000000 : Int64))), (.long (x0 / (1000000 : Int64))), (.long rb), (.long (1 : Int64)), (.ref b271), (.ref b271)])) _
    refine XS.aloadN X281.here hx rfl (hb hby d5_128) rfl rfl ?_
    show Steps p.tables e below (T281.setTop (mkF m 129 #[.val (.ref a1), .val (.int (1 : Int32)), .val (.ref b2), .val (.ref b3), .val (.long ((0 : Int64) + x0)), .second, .val (.long ((0 : Int64) + y0)), .second, .val (.double (own_ratio x0 y0)), .second] [(.ref b3), (.long (x0 / (1000000 : Int64))), (.long (x0 / (1000000 : Int64))), (.long rb), (.long (1 : Int64)), (.ref b271), (.ref b271)])) _
    refine XS.bipush X281.here hx rfl (hb hby d5_129) ?_
    show Steps p.tables e below (T281.setTop (mkF m 131 #[.val (.ref a1), .val (.int (1 : Int32)), .val (.ref b2), .val (.ref b3), .val (.long ((0 : Int64) + x0)), .second, .val (.long ((0 : Int64) + y0)), .second, .val (.double (own_ratio x0 y0)), .second] [(.int (50 : Int32)), (.ref b3), (.long (x0 / (1000000 : Int64))), (.long (x0 / (1000000 : Int64))), (.long rb), (.long (1 : Int64)), (.ref b271), (.ref b271)])) _
    refine st283 _ ?_
    show Steps p.tables e below (T283.setTop (mkF m 134 #[.val (.ref a1), .val (.int (1 : Int32)), .val (.ref b2), .val (.ref b3), .val (.long ((0 : Int64) + x0)), .second, .val (.long ((0 : Int64) + y0)), .second, .val (.double (own_ratio x0 y0)), .second] [(.long (y0 / (1000000 : Int64))), (.long (x0 / (1000000 : Int64))), (.long (x0 / (1000000 : Int64))), (.long rb), (.long (1 : Int64)), (.ref b271), (.ref b271)])) _
    refine XS.aloadN X283.here hx rfl (hb hby d5_134) rfl rfl ?_
    show Steps p.tables e below (T283.setTop (mkF m 135 #[.val (.ref a1), .val (.int (1 : Int32)), .val (.ref b2), .val (.ref b3), .val (.long ((0 : Int64) + x0)), .second, .val (.long ((0 : Int64) + y0)), .second, .val (.double (own_ratio x0 y0)), .second] [(.ref b3), (.long (y0 / (1000000 : Int64))), (.long (x0 / (1000000 : Int64))), (.long (x0 / (1000000 : Int64))), (.long rb), (.long (1 : Int64)), (.ref b271), (.ref b271)])) _
    refine XS.bipush X283.here hx rfl (hb hby d5_135) ?_
    show Steps p.tables e below (T283.setTop (mkF m 137 #[.val (.ref a1), .val (.int (1 : Int32)), .val (.ref b2), .val (.ref b3), .val (.long ((0 : Int64) + x0)), .second, .val (.long ((0 : Int64) + y0)), .second, .val (.double (own_ratio x0 y0)), .second] [(.int (99 : Int32)), (.ref b3), (.long (y0 / (1000000 : Int64))), (.long (x0 / (1000000 : Int64))), (.long (x0 / (1000000 : Int64))), (.long rb), (.long (1 : Int64)), (.ref b271), (.ref b271)])) _
    refine st284 _ ?_
    show Steps p.tables e below (T284.setTop (mkF m 140 #[.val (.ref a1), .val (.int (1 : Int32)), .val (.ref b2), .val (.ref b3), .val (.long ((0 : Int64) + x0)), .second, .val (.long ((0 : Int64) + y0)), .second, .val (.double (own_ratio x0 y0)), .second] [(.long (y0 / (1000000 : Int64))), (.long (y0 / (1000000 : Int64))), (.long (x0 / (1000000 : Int64))), (.long (x0 / (1000000 : Int64))), (.long rb), (.long (1 : Int64)), (.ref b271), (.ref b271)])) _
    refine XS.dload X284.here hx rfl (hb hby d5_140) rfl ?_
    show Steps p.tables e below (T284.setTop (mkF m 142 #[.val (.ref a1), .val (.int (1 : Int32)), .val (.ref b2), .val (.ref b3), .val (.long ((0 : Int64) + x0)), .second, .val (.long ((0 : Int64) + y0)), .second, .val (.double (own_ratio x0 y0)), .second] [(.double (own_ratio x0 y0)), (.long (y0 / (1000000 : Int64))), (.long (y0 / (1000000 : Int64))), (.long (x0 / (1000000 : Int64))), (.long (x0 / (1000000 : Int64))), (.long rb), (.long (1 : Int64)), (.ref b271), (.ref b271)])) _
    refine st285.trans ?_
    show Steps p.tables e below (T285.setTop (mkF m 145 #[.val (.ref a1), .val (.int (1 : Int32)), .val (.ref b2), .val (.ref b3), .val (.long ((0 : Int64) + x0)), .second, .val (.long ((0 : Int64) + y0)), .second, .val (.double (own_ratio x0 y0)), .second] [(.ref b271)])) _
    exact retR X285 hx hret0 rfl rfl rfl (hb hby d5_145) hr
  · show QSt1 Z x0 x1 y0 y1 rb h0 n0 _ T285.heap _
    exact ⟨b271, rfl, N285, own_ext K287, F285⟩
def QSt2 (Z : State) (x0 x1 y0 y1 rb : Int64) (h0 : Heap) (n0 : Nat) (v : Option Value) (h : Heap) (L : List Loc) : Prop := ∃ b : Addr, v = some (.ref b) ∧ Fr n0 L ∧ Ext h0 h ∧ Fs Z h b (.long 2) (.long rb) (.long ((if x1 < x0 then x1 else x0) / (1000000 : Int64))) (.long ((if x0 < x1 then x1 else x0) / (1000000 : Int64))) (.long ((if y1 < y0 then y1 else y0) / (1000000 : Int64))) (.long ((if y0 < y1 then y1 else y0) / (1000000 : Int64))) (.double (own_ratio (x0 + x1) (y0 + y1)))
theorem own_pn_rmSt2 : plainName "com/example/nosy_pool/nosypool/CheckoutHistory" = true := by first | (simp [plainName, overriddenIn]; done) | decide +kernel
theorem own_ef_rmSt2 (m : MethodId) (a1 : Addr) : entryFrame m #[(.ref a1)] 10 = (mkF m 0 #[.val (.ref a1), .unset, .unset, .unset, .unset, .unset, .unset, .unset, .unset, .unset] []) := by first | (simp [entryFrame, mkF, argsToLocals, Value.category]; done) | rfl
set_option maxRecDepth 65536 in
set_option maxHeartbeats 40000000 in
theorem rmSt2 (l : Launch) (Z : State) (a0 : Array Value) (hw : ∀ d ∈ tables_1, d.before a0 Z = true) (ws : List Jvm.Cond) (a1 : Addr) (xh : Addr) (xb : Addr) (kh : ClassId) (kb : ClassId) (x0 : Int64) (x1 : Int64) (y0 : Int64) (y1 : Int64) (rb : Int64) (tu : Addr) (h0 : Heap) (n0 : Nat) (Z0 : n0 ≤ h0.size) (HH : own_Hist Z h0 a1 xh xb kh kb x0 x1 y0 y1 2 rb) (O6 : Sta Z Z.heap "java/util/concurrent/TimeUnit" "NANOSECONDS" "Ljava/util/concurrent/TimeUnit;" (.ref tu)) (ET : Exa Z Z.heap tu "java/util/concurrent/TimeUnit") (FT1 : Fld Z Z.heap tu "java/util/concurrent/TimeUnit" "scale" "J" (.long (1 : Int64))) (FT2 : Fld Z Z.heap tu "java/util/concurrent/TimeUnit" "milliRatio" "I" (.int (1000000 : Int32))) (X00 : Old Z n0 h0) :
    MetFree l (⟨"com/example/nosy_pool/nosypool/CheckoutHistory", "statistics", "()Lcom/example/nosy_pool/nosypool/CheckoutStatistics;"⟩ : MethodName) (head1 (Jvm.Cond.code (⟨"com/example/nosy_pool/nosypool/CheckoutHistory", "statistics", "()Lcom/example/nosy_pool/nosypool/CheckoutStatistics;"⟩ : MethodName) prog_1_method_5_code 10 (some (.object "com/example/nosy_pool/nosypool/CheckoutStatistics")) :: ws) ({ frames := 4, cells := 3, slots := 11, locals := 110 } : Room)) (fun a U => a = #[(.ref a1)] ∧ Z.Warmed39 U.vm ∧ U.heap = h0) (fun _ _ _ _ _ => True) (fun _ U o U' => ∃ v L, o = .returned v ∧ QSt2 Z x0 x1 y0 y1 rb h0 n0 v U'.heap L ∧ FrameEnd U o U' L ({ frames := 4, cells := 3, slots := 11, locals := 110 } : Room).cells ({ frames := 4, cells := 3, slots := 11, locals := 110 } : Room).slots) := by
  refine MetFree.of_bodySF (plainFor_of_name own_pn_rmSt2) hisR ?_
  intro p e s m args below meth c s₁ Bd hml0 hP hK
  obtain ⟨hargs, hZ, hh⟩ := hP
  have hx := Bd.exec
  have hby := Bd.bytes
  have hml : c.maxLocals = 10 := hml0
  have hown : s.vm.findClass "com/example/nosy_pool/nosypool/CheckoutHistory" = some m.cls := findClass_of_methodNamed Bd.named
  have hnm := (name_of_methodNamed Bd.named Bd.method).1
  have hlock : meth.locks = false := Bd.notSynchronized
  have hret0 := Bd.returns
  have X0 : Stand p l e ({ frames := 4, cells := 3, slots := 11, locals := 110 } : Room) s m args below meth c s₁ [] 0 0 := Stand.of_body Bd
  have e0 : s₁.heap = h0 := by rw [← hh, Bd.state]; rfl
  have N0 := Fr.nil n0
  have pre0 : ∀ t, Steps p.tables e below (s₁.setTop (mkF m 0 #[.val (.ref a1), .unset, .unset, .unset, .unset, .unset, .unset, .unset, .unset, .unset] [])) t → Steps p.tables e below (s₁.setTop (entryFrame m args 10)) t := fun t k => castTop (by rw [hargs]; exact own_ef_rmSt2 m a1) k
  clear Bd
  obtain ⟨⟨Ex, F0, F1, F2, F3⟩, Vh, Vb, hne⟩ := HH
  obtain ⟨T288, X288, e288, st288⟩ := getF X0 hx hZ hown (host := "") (Or.inl (hw _ (List.mem_of_getElem? (i := 17) rfl))) Via.refl e0 F2 (g := (mkF m 1 #[.val (.ref a1), .unset, .unset, .unset, .unset, .unset, .unset, .unset, .unset, .unset] [(.ref a1)])) rfl rfl (hb hby d5_1)
  obtain ⟨v289, vmx289, ⟨T289, L289, k289, n289⟩, -, X289, ⟨Lc289, hQ289, l289, y289, z289⟩, st289⟩ := Jvm.LawKit.callS X288 hx (y := (⟨"java/lang/Math", "min", "(JJ)J"⟩ : MethodName)) hown (mvT hZ (hw _ (List.mem_of_getElem? (i := 32) rfl))) (mvT hZ (hw _ (List.mem_of_getElem? (i := 33) rfl))) (mvT hZ (hw _ (List.mem_of_getElem? (i := 34) rfl))) (mvT hZ (hw _ (List.mem_of_getElem? (i := 35) rfl))) (by decide) (backOf (W := 0) (rmJmin l Z a0 hw [] (2 : Int64) (1024 : Int64) h0 n0 Z0 ) hZ (hw _ (List.mem_of_getElem? (i := 35) rfl)) (hw _ (List.mem_of_getElem? (i := 34) rfl)) (by decide) (by decide)) (g := (mkF m 7 #[.val (.ref a1), .unset, .unset, .unset, .unset, .unset, .unset, .unset, .unset, .unset] [(.long (1024 : Int64)), (.long (2 : Int64))])) rfl (by rw [hml]; rfl) (argsL := [(.long (2 : Int64)), (.long (1024 : Int64))]) (rest := []) (lenOf own_pd7 rfl) rfl (by show 2 * 0 + _ ≤ _; exact Nat.le_of_eq rfl) (hb hby d5_7) (fun _ _ => ⟨rfl, e288, (by decide : 0 + 0 ≤ _), (by decide : 0 + 0 ≤ _)⟩)
  dsimp only [Pt.U, Pt.locs, Pt.cells, Pt.slots] at X289 l289 y289 z289 st289 hQ289
  subst l289 y289 z289
  obtain ⟨rfl, Nq289, eh289⟩ := hQ289
  have N289 := Fr.app N0 Nq289
  have st290 : ∀ target, Steps p.tables e below (T289.setTop (mkF m 12 #[.val (.ref a1), .val (.int (2 : Int32)), .unset, .unset, .unset, .unset, .unset, .unset, .unset, .unset] [])) target → Steps p.tables e below (T289.setTop (mkF m 10 #[.val (.ref a1), .unset, .unset, .unset, .unset, .unset, .unset, .unset, .unset, .unset] [(.long (if (1024 : Int64) < (2 : Int64) then (1024 : Int64) else (2 : Int64)))])) target := by
    have ez : ((if (1024 : Int64) < (2 : Int64) then (1024 : Int64) else (2 : Int64)).toInt32) = (2 : Int32) := by decide
    intro target hk
    show Steps p.tables e below (T289.setTop (mkF m 10 #[.val (.ref a1), .unset, .unset, .unset, .unset, .unset, .unset, .unset, .unset, .unset] [(.long (if (1024 : Int64) < (2 : Int64) then (1024 : Int64) else (2 : Int64)))])) _
    refine XS.l2i X289.here hx rfl (hb hby d5_10) rfl ?_
    show Steps p.tables e below (T289.setTop (mkF m 11 #[.val (.ref a1), .unset, .unset, .unset, .unset, .unset, .unset, .unset, .unset, .unset] [(.int ((if (1024 : Int64) < (2 : Int64) then (1024 : Int64) else (2 : Int64)).toInt32))])) _
    refine XS.istoreN X289.here hx rfl (hb hby d5_11) rfl (l' := #[.val (.ref a1), .val (.int ((if (1024 : Int64) < (2 : Int64) then (1024 : Int64) else (2 : Int64)).toInt32)), .unset, .unset, .unset, .unset, .unset, .unset, .unset, .unset]) rfl ?_
    exact hk
  obtain ⟨T291, X291, e291, st291⟩ := getF X289 hx hZ hown (host := "") (Or.inl (hw _ (List.mem_of_getElem? (i := 13) rfl))) Via.refl eh289 F0 (g := (mkF m 21 #[.val (.ref a1), .val (.int (2 : Int32)), .unset, .unset, .unset, .unset, .unset, .unset, .unset, .unset] [(.ref a1)])) rfl rfl (hb hby d5_21)
  obtain ⟨v292, vmx292, ⟨T292, L292, k292, n292⟩, -, X292, ⟨Lc292, hQ292, l292, y292, z292⟩, st292⟩ := Jvm.LawKit.callS X291 hx (y := (⟨"java/util/Arrays", "copyOf", "([JI)[J"⟩ : MethodName)) hown (mvT hZ (hw _ (List.mem_of_getElem? (i := 36) rfl))) (mvT hZ (hw _ (List.mem_of_getElem? (i := 37) rfl))) (mvT hZ (hw _ (List.mem_of_getElem? (i := 38) rfl))) (mvT hZ (hw _ (List.mem_of_getElem? (i := 39) rfl))) (by decide) (backOf (W := 0) (rmCo2 l Z a0 hw [] xh kh x0 x1 h0 n0 Z0 Vh) hZ (hw _ (List.mem_of_getElem? (i := 39) rfl)) (hw _ (List.mem_of_getElem? (i := 38) rfl)) (by decide) (by decide)) (g := (mkF m 25 #[.val (.ref a1), .val (.int (2 : Int32)), .unset, .unset, .unset, .unset, .unset, .unset, .unset, .unset] [(.int (2 : Int32)), (.ref xh)])) rfl (by rw [hml]; rfl) (argsL := [(.ref xh), (.int (2 : Int32))]) (rest := []) (lenOf own_pd8 rfl) rfl (by show 2 * 0 + _ ≤ _; exact Nat.le_of_eq rfl) (hb hby d5_25) (fun _ _ => ⟨rfl, e291, (by decide : 0 + 1 ≤ _), (by decide : 0 + 2 ≤ _)⟩)
  dsimp only [Pt.U, Pt.locs, Pt.cells, Pt.slots] at X292 l292 y292 z292 st292 hQ292
  subst l292 y292 z292
  obtain ⟨b2, k2, rfl, Nq292, E292, sz292, V292⟩ := hQ292
  have N292 := Fr.app N289 Nq292
  have sz_b2 : h0.size ≤ b2 := Nat.le_trans (Keep.refl h0 []).1 sz292
  have ge_b2 : n0 ≤ b2 := Nat.le_trans Z0 sz292
  have Z293 : n0 ≤ T292.heap.size := Nat.le_trans Z0 E292.1
  have K294 : Keep h0 T292.heap [] := (Keep.refl h0 []).ext E292
  have f295 := (F1.ext E292)
  obtain ⟨T296, X296, e296, st296⟩ := getF X292 hx hZ hown (host := "") (Or.inl (hw _ (List.mem_of_getElem? (i := 15) rfl))) Via.refl rfl f295 (g := (mkF m 30 #[.val (.ref a1), .val (.int (2 : Int32)), .val (.ref b2), .unset, .unset, .unset, .unset, .unset, .unset, .unset] [(.ref a1)])) rfl rfl (hb hby d5_30)
  have f297 := (Vb.ext E292)
  obtain ⟨v298, vmx298, ⟨T298, L298, k298, n298⟩, -, X298, ⟨Lc298, hQ298, l298, y298, z298⟩, st298⟩ := Jvm.LawKit.callS X296 hx (y := (⟨"java/util/Arrays", "copyOf", "([JI)[J"⟩ : MethodName)) hown (mvT hZ (hw _ (List.mem_of_getElem? (i := 36) rfl))) (mvT hZ (hw _ (List.mem_of_getElem? (i := 37) rfl))) (mvT hZ (hw _ (List.mem_of_getElem? (i := 38) rfl))) (mvT hZ (hw _ (List.mem_of_getElem? (i := 39) rfl))) (by decide) (backOf (W := 0) (rmCo2 l Z a0 hw [] xb kb y0 y1 T292.heap n0 Z293 f297) hZ (hw _ (List.mem_of_getElem? (i := 39) rfl)) (hw _ (List.mem_of_getElem? (i := 38) rfl)) (by decide) (by decide)) (g := (mkF m 34 #[.val (.ref a1), .val (.int (2 : Int32)), .val (.ref b2), .unset, .unset, .unset, .unset, .unset, .unset, .unset] [(.int (2 : Int32)), (.ref xb)])) rfl (by rw [hml]; rfl) (argsL := [(.ref xb), (.int (2 : Int32))]) (rest := []) (lenOf own_pd8 rfl) rfl (by show 2 * 0 + _ ≤ _; exact Nat.le_of_eq rfl) (hb hby d5_34) (fun _ _ => ⟨rfl, e296, (by decide : 1 + 1 ≤ _), (by decide : 2 + 2 ≤ _)⟩)
  dsimp only [Pt.U, Pt.locs, Pt.cells, Pt.slots] at X298 l298 y298 z298 st298 hQ298
  subst l298 y298 z298
  obtain ⟨b3, k3, rfl, Nq298, E298, sz298, V298⟩ := hQ298
  have N298 := Fr.app N292 Nq298
  have sz_b3 : h0.size ≤ b3 := Nat.le_trans K294.1 sz298
  have ge_b3 : n0 ≤ b3 := Nat.le_trans Z293 sz298
  have Z299 : n0 ≤ T298.heap.size := Nat.le_trans Z293 E298.1
  have K300 : Keep h0 T298.heap [] := K294.ext E298
  have n23 : b2 ≠ b3 := Nat.ne_of_lt (Nat.lt_of_lt_of_le V292.lt sz298)
  have na2 : a1 ≠ b2 := Nat.ne_of_lt (Nat.lt_of_lt_of_le Ex.lt sz_b2)
  have na3 : a1 ≠ b3 := Nat.ne_of_lt (Nat.lt_of_lt_of_le Ex.lt sz_b3)
  have f301 := (V292.ext E298)
  obtain ⟨cl302, Ar302, -, S302, M302, Hs302, -⟩ := id f301
  have hin302 := inb_of S302 (j := (0 : Int32)) ⟨(by decide), (by decide)⟩
  have hat302 : cl302.slots[((0 : Int32)).toNatClampNeg]? = some (.long x0) := Has.at Hs302 hin302 rfl
  obtain ⟨cl303, Ar303, -, S303, M303, Hs303, -⟩ := id V298
  have hin303 := inb_of S303 (j := (0 : Int32)) ⟨(by decide), (by decide)⟩
  have hat303 : cl303.slots[((0 : Int32)).toNatClampNeg]? = some (.long y0) := Has.at Hs303 hin303 rfl
  obtain ⟨cl304, Ar304, -, S304, M304, Hs304, -⟩ := id f301
  have hin304 := inb_of S304 (j := ((0 : Int32) + (1 : Int32))) ⟨(by decide), (by decide)⟩
  have hat304 : cl304.slots[(((0 : Int32) + (1 : Int32))).toNatClampNeg]? = some (.long x1) := Has.at Hs304 hin304 rfl
  obtain ⟨cl305, Ar305, -, S305, M305, Hs305, -⟩ := id V298
  have hin305 := inb_of S305 (j := ((0 : Int32) + (1 : Int32))) ⟨(by decide), (by decide)⟩
  have hat305 : cl305.slots[(((0 : Int32) + (1 : Int32))).toNatClampNeg]? = some (.long y1) := Has.at Hs305 hin305 rfl
  obtain ⟨v306, vmx306, ⟨T306, L306, k306, n306⟩, -, X306, ⟨Lc306, hQ306, l306, y306, z306⟩, st306⟩ := Jvm.LawKit.callS X298 hx (y := (⟨"java/util/Arrays", "sort", "([J)V"⟩ : MethodName)) hown (mvT hZ (hw _ (List.mem_of_getElem? (i := 47) rfl))) (mvT hZ (hw _ (List.mem_of_getElem? (i := 48) rfl))) (mvT hZ (hw _ (List.mem_of_getElem? (i := 38) rfl))) (mvT hZ (hw _ (List.mem_of_getElem? (i := 49) rfl))) (by decide) (backOf (W := 0) (rmS12 l Z a0 hw [] b2 k2 x0 x1 T298.heap n0 Z299 f301 ge_b2) hZ (hw _ (List.mem_of_getElem? (i := 49) rfl)) (hw _ (List.mem_of_getElem? (i := 38) rfl)) (by decide) (by decide)) (g := (mkF m 78 #[.val (.ref a1), .val (.int (2 : Int32)), .val (.ref b2), .val (.ref b3), .val (.long (((0 : Int64) + x0) + x1)), .second, .val (.long (((0 : Int64) + y0) + y1)), .second, .val (.int (((0 : Int32) + (1 : Int32)) + (1 : Int32))), .unset] [(.ref b2)])) rfl (by rw [hml]; rfl) (argsL := [(.ref b2)]) (rest := []) (lenOf own_pd9 rfl) rfl (by show 2 * 0 + _ ≤ _; exact Nat.le_of_eq rfl) (hb hby d5_78) (fun _ _ => ⟨rfl, rfl, (by decide : 2 + 0 ≤ _), (by decide : 4 + 0 ≤ _)⟩)
  dsimp only [Pt.U, Pt.locs, Pt.cells, Pt.slots] at X306 l306 y306 z306 st306 hQ306
  subst l306 y306 z306
  obtain ⟨rfl, Nq306, K306, V306⟩ := hQ306
  have N306 := Fr.app N298 Nq306
  have Z307 : n0 ≤ T306.heap.size := Nat.le_trans Z299 K306.1
  have K308 : Keep h0 T306.heap [] := K300.trans K306 (allS (Or.inr sz_b2) all0)
  have f309 := (V298.keep K306 (ninS (Ne.symm n23) nin0))
  obtain ⟨v310, vmx310, ⟨T310, L310, k310, n310⟩, -, X310, ⟨Lc310, hQ310, l310, y310, z310⟩, st310⟩ := Jvm.LawKit.callS X306 hx (y := (⟨"java/util/Arrays", "sort", "([J)V"⟩ : MethodName)) hown (mvT hZ (hw _ (List.mem_of_getElem? (i := 47) rfl))) (mvT hZ (hw _ (List.mem_of_getElem? (i := 48) rfl))) (mvT hZ (hw _ (List.mem_of_getElem? (i := 38) rfl))) (mvT hZ (hw _ (List.mem_of_getElem? (i := 49) rfl))) (by decide) (backOf (W := 0) (rmS12 l Z a0 hw [] b3 k3 y0 y1 T306.heap n0 Z307 f309 ge_b3) hZ (hw _ (List.mem_of_getElem? (i := 49) rfl)) (hw _ (List.mem_of_getElem? (i := 38) rfl)) (by decide) (by decide)) (g := (mkF m 82 #[.val (.ref a1), .val (.int (2 : Int32)), .val (.ref b2), .val (.ref b3), .val (.long (((0 : Int64) + x0) + x1)), .second, .val (.long (((0 : Int64) + y0) + y1)), .second, .val (.int (((0 : Int32) + (1 : Int32)) + (1 : Int32))), .unset] [(.ref b3)])) rfl (by rw [hml]; rfl) (argsL := [(.ref b3)]) (rest := []) (lenOf own_pd9 rfl) rfl (by show 2 * 0 + _ ≤ _; exact Nat.le_of_eq rfl) (hb hby d5_82) (fun _ _ => ⟨rfl, rfl, (by decide : 2 + 0 ≤ _), (by decide : 4 + 0 ≤ _)⟩)
  dsimp only [Pt.U, Pt.locs, Pt.cells, Pt.slots] at X310 l310 y310 z310 st310 hQ310
  subst l310 y310 z310
  obtain ⟨rfl, Nq310, K310, V310⟩ := hQ310
  have N310 := Fr.app N306 Nq310
  have Z311 : n0 ≤ T310.heap.size := Nat.le_trans Z307 K310.1
  have K312 : Keep h0 T310.heap [] := K308.trans K310 (allS (Or.inr sz_b3) all0)
  have eh : (((0 : Int64) + x0) + x1) = (x0 + x1) := by rw [Int64.zero_add]
  have eb : (((0 : Int64) + y0) + y1) = (y0 + y1) := by rw [Int64.zero_add]
  have st313 : ∀ target, Steps p.tables e below (T310.setTop (mkF m 104 #[.val (.ref a1), .val (.int (2 : Int32)), .val (.ref b2), .val (.ref b3), .val (.long (((0 : Int64) + x0) + x1)), .second, .val (.long (((0 : Int64) + y0) + y1)), .second, .val (.double (own_ratio (x0 + x1) (y0 + y1))), .second] [])) target → Steps p.tables e below (T310.setTop (mkF m 85 #[.val (.ref a1), .val (.int (2 : Int32)), .val (.ref b2), .val (.ref b3), .val (.long (((0 : Int64) + x0) + x1)), .second, .val (.long (((0 : Int64) + y0) + y1)), .second, .val (.int (((0 : Int32) + (1 : Int32)) + (1 : Int32))), .unset] [])) target := by
    by_cases hc : (0 : Int64) < (((0 : Int64) + x0) + x1)
    · skip
      have hc' : (0 : Int64) < (x0 + x1) := by rw [← eh]; exact hc
      have er : own_ratio (x0 + x1) (y0 + y1) = FP.ddiv (FP.l2d (((0 : Int64) + y0) + y1)) (FP.l2d (((0 : Int64) + x0) + x1)) := by rw [eh, eb]; exact if_pos hc'
      rw [er]
      intro target hk
      show Steps p.tables e below (T310.setTop (mkF m 85 #[.val (.ref a1), .val (.int (2 : Int32)), .val (.ref b2), .val (.ref b3), .val (.long (((0 : Int64) + x0) + x1)), .second, .val (.long (((0 : Int64) + y0) + y1)), .second, .val (.int (((0 : Int32) + (1 : Int32)) + (1 : Int32))), .unset] [])) _
      refine XS.dconst0 X310.here hx rfl (v := 0) (hb hby d5_85) (by decide +kernel) ?_
      show Steps p.tables e below (T310.setTop (mkF m 86 #[.val (.ref a1), .val (.int (2 : Int32)), .val (.ref b2), .val (.ref b3), .val (.long (((0 : Int64) + x0) + x1)), .second, .val (.long (((0 : Int64) + y0) + y1)), .second, .val (.int (((0 : Int32) + (1 : Int32)) + (1 : Int32))), .unset] [(.double (0 : UInt64))])) _
      refine XS.dstore X310.here hx rfl (hb hby d5_86) rfl (l' := #[.val (.ref a1), .val (.int (2 : Int32)), .val (.ref b2), .val (.ref b3), .val (.long (((0 : Int64) + x0) + x1)), .second, .val (.long (((0 : Int64) + y0) + y1)), .second, .val (.double (0 : UInt64)), .second]) rfl ?_
      show Steps p.tables e below (T310.setTop (mkF m 88 #[.val (.ref a1), .val (.int (2 : Int32)), .val (.ref b2), .val (.ref b3), .val (.long (((0 : Int64) + x0) + x1)), .second, .val (.long (((0 : Int64) + y0) + y1)), .second, .val (.double (0 : UInt64)), .second] [])) _
      refine XS.lload X310.here hx rfl (hb hby d5_88) rfl ?_
      show Steps p.tables e below (T310.setTop (mkF m 90 #[.val (.ref a1), .val (.int (2 : Int32)), .val (.ref b2), .val (.ref b3), .val (.long (((0 : Int64) + x0) + x1)), .second, .val (.long (((0 : Int64) + y0) + y1)), .second, .val (.double (0 : UInt64)), .second] [(.long (((0 : Int64) + x0) + x1))])) _
      refine XS.lconst X310.here hx rfl (hb hby d5_90) ?_
      show Steps p.tables e below (T310.setTop (mkF m 91 #[.val (.ref a1), .val (.int (2 : Int32)), .val (.ref b2), .val (.ref b3), .val (.long (((0 : Int64) + x0) + x1)), .second, .val (.long (((0 : Int64) + y0) + y1)), .second, .val (.double (0 : UInt64)), .second] [(.long (0 : Int64)), (.long (((0 : Int64) + x0) + x1))])) _
      refine XS.lcmp X310.here hx rfl (hb hby d5_91) rfl ?_
      show Steps p.tables e below (T310.setTop (mkF m 92 #[.val (.ref a1), .val (.int (2 : Int32)), .val (.ref b2), .val (.ref b3), .val (.long (((0 : Int64) + x0) + x1)), .second, .val (.long (((0 : Int64) + y0) + y1)), .second, .val (.double (0 : UInt64)), .second] [(.int (lcmpW (((0 : Int64) + x0) + x1) (0 : Int64)))])) _
      refine XS.ifNo X310.here hx rfl (hb hby d5_92) rfl ((if0 _ _).trans (tlt ((lw_gt _ _).mpr hc)).2.2.2) ?_
      show Steps p.tables e below (T310.setTop (mkF m 95 #[.val (.ref a1), .val (.int (2 : Int32)), .val (.ref b2), .val (.ref b3), .val (.long (((0 : Int64) + x0) + x1)), .second, .val (.long (((0 : Int64) + y0) + y1)), .second, .val (.double (0 : UInt64)), .second] [])) _
      refine XS.lload X310.here hx rfl (hb hby d5_95) rfl ?_
      show Steps p.tables e below (T310.setTop (mkF m 97 #[.val (.ref a1), .val (.int (2 : Int32)), .val (.ref b2), .val (.ref b3), .val (.long (((0 : Int64) + x0) + x1)), .second, .val (.long (((0 : Int64) + y0) + y1)), .second, .val (.double (0 : UInt64)), .second] [(.long (((0 : Int64) + y0) + y1))])) _
      refine XS.l2dS X310.here hx rfl (hb hby d5_97) rfl rfl ?_
      show Steps p.tables e below (T310.setTop (mkF m 98 #[.val (.ref a1), .val (.int (2 : Int32)), .val (.ref b2), .val (.ref b3), .val (.long (((0 : Int64) + x0) + x1)), .second, .val (.long (((0 : Int64) + y0) + y1)), .second, .val (.double (0 : UInt64)), .second] [(.double (FP.l2d (((0 : Int64) + y0) + y1)))])) _
      refine XS.lload X310.here hx rfl (hb hby d5_98) rfl ?_
      show Steps p.tables e below (T310.setTop (mkF m 100 #[.val (.ref a1), .val (.int (2 : Int32)), .val (.ref b2), .val (.ref b3), .val (.long (((0 : Int64) + x0) + x1)), .second, .val (.long (((0 : Int64) + y0) + y1)), .second, .val (.double (0 : UInt64)), .second] [(.long (((0 : Int64) + x0) + x1)), (.double (FP.l2d (((0 : Int64) + y0) + y1)))])) _
      refine XS.l2dS X310.here hx rfl (hb hby d5_100) rfl rfl ?_
      show Steps p.tables e below (T310.setTop (mkF m 101 #[.val (.ref a1), .val (.int (2 : Int32)), .val (.ref b2), .val (.ref b3), .val (.long (((0 : Int64) + x0) + x1)), .second, .val (.long (((0 : Int64) + y0) + y1)), .second, .val (.double (0 : UInt64)), .second] [(.double (FP.l2d (((0 : Int64) + x0) + x1))), (.double (FP.l2d (((0 : Int64) + y0) + y1)))])) _
      refine XS.ddivS X310.here hx rfl (hb hby d5_101) rfl (own_nnan hc) rfl ?_
      show Steps p.tables e below (T310.setTop (mkF m 102 #[.val (.ref a1), .val (.int (2 : Int32)), .val (.ref b2), .val (.ref b3), .val (.long (((0 : Int64) + x0) + x1)), .second, .val (.long (((0 : Int64) + y0) + y1)), .second, .val (.double (0 : UInt64)), .second] [(.double (FP.ddiv (FP.l2d (((0 : Int64) + y0) + y1)) (FP.l2d (((0 : Int64) + x0) + x1))))])) _
      refine XS.dstore X310.here hx rfl (hb hby d5_102) rfl (l' := #[.val (.ref a1), .val (.int (2 : Int32)), .val (.ref b2), .val (.ref b3), .val (.long (((0 : Int64) + x0) + x1)), .second, .val (.long (((0 : Int64) + y0) + y1)), .second, .val (.double (FP.ddiv (FP.l2d (((0 : Int64) + y0) + y1)) (FP.l2d (((0 : Int64) + x0) + x1)))), .second]) rfl ?_
      exact hk
    · skip
      have er : own_ratio (x0 + x1) (y0 + y1) = 0 := if_neg (fun q => hc (by rw [eh]; exact q))
      rw [er]
      intro target hk
      show Steps p.tables e below (T310.setTop (mkF m 85 #[.val (.ref a1), .val (.int (2 : Int32)), .val (.ref b2), .val (.ref b3), .val (.long (((0 : Int64) + x0) + x1)), .second, .val (.long (((0 : Int64) + y0) + y1)), .second, .val (.int (((0 : Int32) + (1 : Int32)) + (1 : Int32))), .unset] [])) _
      refine XS.dconst0 X310.here hx rfl (v := 0) (hb hby d5_85) (by decide +kernel) ?_
      show Steps p.tables e below (T310.setTop (mkF m 86 #[.val (.ref a1), .val (.int (2 : Int32)), .val (.ref b2), .val (.ref b3), .val (.long (((0 : Int64) + x0) + x1)), .second, .val (.long (((0 : Int64) + y0) + y1)), .second, .val (.int (((0 : Int32) + (1 : Int32)) + (1 : Int32))), .unset] [(.double (0 : UInt64))])) _
      refine XS.dstore X310.here hx rfl (hb hby d5_86) rfl (l' := #[.val (.ref a1), .val (.int (2 : Int32)), .val (.ref b2), .val (.ref b3), .val (.long (((0 : Int64) + x0) + x1)), .second, .val (.long (((0 : Int64) + y0) + y1)), .second, .val (.double (0 : UInt64)), .second]) rfl ?_
      show Steps p.tables e below (T310.setTop (mkF m 88 #[.val (.ref a1), .val (.int (2 : Int32)), .val (.ref b2), .val (.ref b3), .val (.long (((0 : Int64) + x0) + x1)), .second, .val (.long (((0 : Int64) + y0) + y1)), .second, .val (.double (0 : UInt64)), .second] [])) _
      refine XS.lload X310.here hx rfl (hb hby d5_88) rfl ?_
      show Steps p.tables e below (T310.setTop (mkF m 90 #[.val (.ref a1), .val (.int (2 : Int32)), .val (.ref b2), .val (.ref b3), .val (.long (((0 : Int64) + x0) + x1)), .second, .val (.long (((0 : Int64) + y0) + y1)), .second, .val (.double (0 : UInt64)), .second] [(.long (((0 : Int64) + x0) + x1))])) _
      refine XS.lconst X310.here hx rfl (hb hby d5_90) ?_
      show Steps p.tables e below (T310.setTop (mkF m 91 #[.val (.ref a1), .val (.int (2 : Int32)), .val (.ref b2), .val (.ref b3), .val (.long (((0 : Int64) + x0) + x1)), .second, .val (.long (((0 : Int64) + y0) + y1)), .second, .val (.double (0 : UInt64)), .second] [(.long (0 : Int64)), (.long (((0 : Int64) + x0) + x1))])) _
      refine XS.lcmp X310.here hx rfl (hb hby d5_91) rfl ?_
      show Steps p.tables e below (T310.setTop (mkF m 92 #[.val (.ref a1), .val (.int (2 : Int32)), .val (.ref b2), .val (.ref b3), .val (.long (((0 : Int64) + x0) + x1)), .second, .val (.long (((0 : Int64) + y0) + y1)), .second, .val (.double (0 : UInt64)), .second] [(.int (lcmpW (((0 : Int64) + x0) + x1) (0 : Int64)))])) _
      refine XS.ifYes X310.here hx rfl (pc0 := 92) (pc' := 104) rfl (hb hby d5_92) rfl ((if0 _ _).trans (flt (mt (lw_gt _ _).mp hc)).2.2.2) (by decide) (by decide) ?_
      exact hk
  obtain ⟨T314, h314, X314, e314, E314, A314, D314, -, st314⟩ := newO X310 hx hZ hown (hw _ (List.mem_of_getElem? (i := 60) rfl)) (hw _ (List.mem_of_getElem? (i := 61) rfl)) (hw _ (List.mem_of_getElem? (i := 62) rfl)) rfl (g := (mkF m 104 #[.val (.ref a1), .val (.int (2 : Int32)), .val (.ref b2), .val (.ref b3), .val (.long (((0 : Int64) + x0) + x1)), .second, .val (.long (((0 : Int64) + y0) + y1)), .second, .val (.double (own_ratio (x0 + x1) (y0 + y1))), .second] [])) rfl (hb hby d5_104) (by decide) (by decide)
  obtain ⟨b314, g314⟩ : ∃ z, z = T310.heap.size := ⟨_, rfl⟩
  rw [← g314] at A314 D314 st314
  have ge_b314 : n0 ≤ b314 := Nat.le_trans Z311 (Nat.le_of_eq g314.symm)
  have sz_b314 : h0.size ≤ b314 := Nat.le_trans K312.1 (Nat.le_of_eq g314.symm)
  have Z315 : n0 ≤ h314.size := Nat.le_trans Z311 E314.1
  have K316 : Keep h0 h314 [] := K312.ext E314
  have f317 := (((((F2.ext E292).ext E298).keep K306 (ninS na2 nin0)).keep K310 (ninS na3 nin0)).ext E314)
  obtain ⟨T318, X318, e318, st318⟩ := getF X314 hx hZ hown (host := "") (Or.inl (hw _ (List.mem_of_getElem? (i := 17) rfl))) Via.refl e314 f317 (g := (mkF m 109 #[.val (.ref a1), .val (.int (2 : Int32)), .val (.ref b2), .val (.ref b3), .val (.long (((0 : Int64) + x0) + x1)), .second, .val (.long (((0 : Int64) + y0) + y1)), .second, .val (.double (own_ratio (x0 + x1) (y0 + y1))), .second] [(.ref a1), (.ref b314), (.ref b314)])) rfl rfl (hb hby d5_109)
  have f319 := (((((F3.ext E292).ext E298).keep K306 (ninS na2 nin0)).keep K310 (ninS na3 nin0)).ext E314)
  obtain ⟨T320, X320, e320, st320⟩ := getF X318 hx hZ hown (host := "") (Or.inl (hw _ (List.mem_of_getElem? (i := 19) rfl))) Via.refl e318 f319 (g := (mkF m 113 #[.val (.ref a1), .val (.int (2 : Int32)), .val (.ref b2), .val (.ref b3), .val (.long (((0 : Int64) + x0) + x1)), .second, .val (.long (((0 : Int64) + y0) + y1)), .second, .val (.double (own_ratio (x0 + x1) (y0 + y1))), .second] [(.ref a1), (.long (2 : Int64)), (.ref b314), (.ref b314)])) rfl rfl (hb hby d5_113)
  have f321 := (((((X00.ext E292).ext E298).keep K306 (allS ge_b2 all0)).keep K310 (allS ge_b3 all0)).ext E314)
  have f322 := ((V306.keep K310 (ninS n23 nin0)).ext E314)
  obtain ⟨v323, vmx323, ⟨T323, L323, k323, n323⟩, -, X323, ⟨Lc323, hQ323, l323, y323, z323⟩, st323⟩ := Jvm.LawKit.callS X320 hx (y := (⟨"com/example/nosy_pool/nosypool/CheckoutHistory", "percentileMs", "([JI)J"⟩ : MethodName)) hown (mvT hZ (hw _ (List.mem_of_getElem? (i := 63) rfl))) (mvT hZ (hw _ (List.mem_of_getElem? (i := 64) rfl))) (mvT hZ (hw _ (List.mem_of_getElem? (i := 2) rfl))) (mvT hZ (hw _ (List.mem_of_getElem? (i := 65) rfl))) (by decide) (backOf (W := 6) (rmPm2_50 l Z a0 hw [] b2 k2 (if x1 < x0 then x1 else x0) (if x0 < x1 then x1 else x0) tu h314 n0 Z315 f322 O6 ET FT1 FT2 f321) hZ (hw _ (List.mem_of_getElem? (i := 65) rfl)) (hw _ (List.mem_of_getElem? (i := 2) rfl)) (by decide) (by decide)) (g := (mkF m 119 #[.val (.ref a1), .val (.int (2 : Int32)), .val (.ref b2), .val (.ref b3), .val (.long (((0 : Int64) + x0) + x1)), .second, .val (.long (((0 : Int64) + y0) + y1)), .second, .val (.double (own_ratio (x0 + x1) (y0 + y1))), .second] [(.int (50 : Int32)), (.ref b2), (.long rb), (.long (2 : Int64)), (.ref b314), (.ref b314)])) rfl (by rw [hml]; rfl) (argsL := [(.ref b2), (.int (50 : Int32))]) (rest := [(.long rb), (.long (2 : Int64)), (.ref b314), (.ref b314)]) (lenOf own_pd10 rfl) rfl (by show 2 * 0 + _ ≤ _; exact Nat.le_of_eq rfl) (hb hby d5_119) (fun _ _ => ⟨rfl, e320, (by decide : 3 + 0 ≤ _), (by decide : 11 + 0 ≤ _)⟩)
  dsimp only [Pt.U, Pt.locs, Pt.cells, Pt.slots] at X323 l323 y323 z323 st323 hQ323
  subst l323 y323 z323
  obtain ⟨rfl, Nq323, eh323⟩ := hQ323
  have N323 := Fr.app N310 Nq323
  obtain ⟨v324, vmx324, ⟨T324, L324, k324, n324⟩, -, X324, ⟨Lc324, hQ324, l324, y324, z324⟩, st324⟩ := Jvm.LawKit.callS X323 hx (y := (⟨"com/example/nosy_pool/nosypool/CheckoutHistory", "percentileMs", "([JI)J"⟩ : MethodName)) hown (mvT hZ (hw _ (List.mem_of_getElem? (i := 63) rfl))) (mvT hZ (hw _ (List.mem_of_getElem? (i := 64) rfl))) (mvT hZ (hw _ (List.mem_of_getElem? (i := 2) rfl))) (mvT hZ (hw _ (List.mem_of_getElem? (i := 65) rfl))) (by decide) (backOf (W := 8) (rmPm2_99 l Z a0 hw [] b2 k2 (if x1 < x0 then x1 else x0) (if x0 < x1 then x1 else x0) tu h314 n0 Z315 f322 O6 ET FT1 FT2 f321) hZ (hw _ (List.mem_of_getElem? (i := 65) rfl)) (hw _ (List.mem_of_getElem? (i := 2) rfl)) (by decide) (by decide)) (g := (mkF m 125 #[.val (.ref a1), .val (.int (2 : Int32)), .val (.ref b2), .val (.ref b3), .val (.long (((0 : Int64) + x0) + x1)), .second, .val (.long (((0 : Int64) + y0) + y1)), .second, .val (.double (own_ratio (x0 + x1) (y0 + y1))), .second] [(.int (99 : Int32)), (.ref b2), (.long ((if x1 < x0 then x1 else x0) / (1000000 : Int64))), (.long rb), (.long (2 : Int64)), (.ref b314), (.ref b314)])) rfl (by rw [hml]; rfl) (argsL := [(.ref b2), (.int (99 : Int32))]) (rest := [(.long ((if x1 < x0 then x1 else x0) / (1000000 : Int64))), (.long rb), (.long (2 : Int64)), (.ref b314), (.ref b314)]) (lenOf own_pd10 rfl) rfl (by show 2 * 0 + _ ≤ _; exact Nat.le_of_eq rfl) (hb hby d5_125) (fun _ _ => ⟨rfl, eh323, (by decide : 3 + 0 ≤ _), (by decide : 11 + 0 ≤ _)⟩)
  dsimp only [Pt.U, Pt.locs, Pt.cells, Pt.slots] at X324 l324 y324 z324 st324 hQ324
  subst l324 y324 z324
  obtain ⟨rfl, Nq324, eh324⟩ := hQ324
  have N324 := Fr.app N323 Nq324
  have f325 := (V310.ext E314)
  obtain ⟨v326, vmx326, ⟨T326, L326, k326, n326⟩, -, X326, ⟨Lc326, hQ326, l326, y326, z326⟩, st326⟩ := Jvm.LawKit.callS X324 hx (y := (⟨"com/example/nosy_pool/nosypool/CheckoutHistory", "percentileMs", "([JI)J"⟩ : MethodName)) hown (mvT hZ (hw _ (List.mem_of_getElem? (i := 63) rfl))) (mvT hZ (hw _ (List.mem_of_getElem? (i := 64) rfl))) (mvT hZ (hw _ (List.mem_of_getElem? (i := 2) rfl))) (mvT hZ (hw _ (List.mem_of_getElem? (i := 65) rfl))) (by decide) (backOf (W := 10) (rmPm2_50 l Z a0 hw [] b3 k3 (if y1 < y0 then y1 else y0) (if y0 < y1 then y1 else y0) tu h314 n0 Z315 f325 O6 ET FT1 FT2 f321) hZ (hw _ (List.mem_of_getElem? (i := 65) rfl)) (hw _ (List.mem_of_getElem? (i := 2) rfl)) (by decide) (by decide)) (g := (mkF m 131 #[.val (.ref a1), .val (.int (2 : Int32)), .val (.ref b2), .val (.ref b3), .val (.long (((0 : Int64) + x0) + x1)), .second, .val (.long (((0 : Int64) + y0) + y1)), .second, .val (.double (own_ratio (x0 + x1) (y0 + y1))), .second] [(.int (50 : Int32)), (.ref b3), (.long ((if x0 < x1 then x1 else x0) / (1000000 : Int64))), (.long ((if x1 < x0 then x1 else x0) / (1000000 : Int64))), (.long rb), (.long (2 : Int64)), (.ref b314), (.ref b314)])) rfl (by rw [hml]; rfl) (argsL := [(.ref b3), (.int (50 : Int32))]) (rest := [(.long ((if x0 < x1 then x1 else x0) / (1000000 : Int64))), (.long ((if x1 < x0 then x1 else x0) / (1000000 : Int64))), (.long rb), (.long (2 : Int64)), (.ref b314), (.ref b314)]) (lenOf own_pd10 rfl) rfl (by show 2 * 0 + _ ≤ _; exact Nat.le_of_eq rfl) (hb hby d5_131) (fun _ _ => ⟨rfl, eh324, (by decide : 3 + 0 ≤ _), (by decide : 11 + 0 ≤ _)⟩)
  dsimp only [Pt.U, Pt.locs, Pt.cells, Pt.slots] at X326 l326 y326 z326 st326 hQ326
  subst l326 y326 z326
  obtain ⟨rfl, Nq326, eh326⟩ := hQ326
  have N326 := Fr.app N324 Nq326
  obtain ⟨v327, vmx327, ⟨T327, L327, k327, n327⟩, -, X327, ⟨Lc327, hQ327, l327, y327, z327⟩, st327⟩ := Jvm.LawKit.callS X326 hx (y := (⟨"com/example/nosy_pool/nosypool/CheckoutHistory", "percentileMs", "([JI)J"⟩ : MethodName)) hown (mvT hZ (hw _ (List.mem_of_getElem? (i := 63) rfl))) (mvT hZ (hw _ (List.mem_of_getElem? (i := 64) rfl))) (mvT hZ (hw _ (List.mem_of_getElem? (i := 2) rfl))) (mvT hZ (hw _ (List.mem_of_getElem? (i := 65) rfl))) (by decide) (backOf (W := 12) (rmPm2_99 l Z a0 hw [] b3 k3 (if y1 < y0 then y1 else y0) (if y0 < y1 then y1 else y0) tu h314 n0 Z315 f325 O6 ET FT1 FT2 f321) hZ (hw _ (List.mem_of_getElem? (i := 65) rfl)) (hw _ (List.mem_of_getElem? (i := 2) rfl)) (by decide) (by decide)) (g := (mkF m 137 #[.val (.ref a1), .val (.int (2 : Int32)), .val (.ref b2), .val (.ref b3), .val (.long (((0 : Int64) + x0) + x1)), .second, .val (.long (((0 : Int64) + y0) + y1)), .second, .val (.double (own_ratio (x0 + x1) (y0 + y1))), .second] [(.int (99 : Int32)), (.ref b3), (.long ((if y1 < y0 then y1 else y0) / (1000000 : Int64))), (.long ((if x0 < x1 then x1 else x0) / (1000000 : Int64))), (.long ((if x1 < x0 then x1 else x0) / (1000000 : Int64))), (.long rb), (.long (2 : Int64)), (.ref b314), (.ref b314)])) rfl (by rw [hml]; rfl) (argsL := [(.ref b3), (.int (99 : Int32))]) (rest := [(.long ((if y1 < y0 then y1 else y0) / (1000000 : Int64))), (.long ((if x0 < x1 then x1 else x0) / (1000000 : Int64))), (.long ((if x1 < x0 then x1 else x0) / (1000000 : Int64))), (.long rb), (.long (2 : Int64)), (.ref b314), (.ref b314)]) (lenOf own_pd10 rfl) rfl (by show 2 * 0 + _ ≤ _; exact Nat.le_of_eq rfl) (hb hby d5_137) (fun _ _ => ⟨rfl, eh326, (by decide : 3 + 0 ≤ _), (by decide : 11 + 0 ≤ _)⟩)
  dsimp only [Pt.U, Pt.locs, Pt.cells, Pt.slots] at X327 l327 y327 z327 st327 hQ327
  subst l327 y327 z327
  obtain ⟨rfl, Nq327, eh327⟩ := hQ327
  have N327 := Fr.app N326 Nq327
  obtain ⟨v328, vmx328, ⟨T328, L328, k328, n328⟩, -, X328, ⟨Lc328, hQ328, l328, y328, z328⟩, st328⟩ := X327.specialBack hx (y := (⟨"com/example/nosy_pool/nosypool/CheckoutStatistics", "<init>", "(JJJJJJD)V"⟩ : MethodName)) rfl hown (mvT hZ (hw _ (List.mem_of_getElem? (i := 78) rfl))) (mvT hZ (hw _ (List.mem_of_getElem? (i := 79) rfl))) (mvT hZ (hw _ (List.mem_of_getElem? (i := 80) rfl))) (by decide) (backOf (W := 1) (rmCS l Z a0 hw [] b314 2 rb ((if x1 < x0 then x1 else x0) / (1000000 : Int64)) ((if x0 < x1 then x1 else x0) / (1000000 : Int64)) ((if y1 < y0 then y1 else y0) / (1000000 : Int64)) ((if y0 < y1 then y1 else y0) / (1000000 : Int64)) (own_ratio (x0 + x1) (y0 + y1)) _ _ _ _ _ _ _ h314 n0 Z315 ge_b314 ⟨A314, (D314 (Or.inr (hw _ (List.mem_of_getElem? (i := 88) rfl))) (ty := .long) (by decide)), (D314 (Or.inr (hw _ (List.mem_of_getElem? (i := 90) rfl))) (ty := .long) (by decide)), (D314 (Or.inr (hw _ (List.mem_of_getElem? (i := 92) rfl))) (ty := .long) (by decide)), (D314 (Or.inr (hw _ (List.mem_of_getElem? (i := 94) rfl))) (ty := .long) (by decide)), (D314 (Or.inr (hw _ (List.mem_of_getElem? (i := 96) rfl))) (ty := .long) (by decide)), (D314 (Or.inr (hw _ (List.mem_of_getElem? (i := 98) rfl))) (ty := .long) (by decide)), (D314 (Or.inr (hw _ (List.mem_of_getElem? (i := 100) rfl))) (ty := .double) (by decide))⟩) hZ (hw _ (List.mem_of_getElem? (i := 80) rfl)) (hw _ (List.mem_of_getElem? (i := 62) rfl)) (by decide) (by decide)) (g := (mkF m 142 #[.val (.ref a1), .val (.int (2 : Int32)), .val (.ref b2), .val (.ref b3), .val (.long (((0 : Int64) + x0) + x1)), .second, .val (.long (((0 : Int64) + y0) + y1)), .second, .val (.double (own_ratio (x0 + x1) (y0 + y1))), .second] [(.double (own_ratio (x0 + x1) (y0 + y1))), (.long ((if y0 < y1 then y1 else y0) / (1000000 : Int64))), (.long ((if y1 < y0 then y1 else y0) / (1000000 : Int64))), (.long ((if x0 < x1 then x1 else x0) / (1000000 : Int64))), (.long ((if x1 < x0 then x1 else x0) / (1000000 : Int64))), (.long rb), (.long (2 : Int64)), (.ref b314), (.ref b314)])) rfl (by rw [hml]; rfl) (Steps.refl _) (a := b314) (argsL := [(.long (2 : Int64)), (.long rb), (.long ((if x1 < x0 then x1 else x0) / (1000000 : Int64))), (.long ((if x0 < x1 then x1 else x0) / (1000000 : Int64))), (.long ((if y1 < y0 then y1 else y0) / (1000000 : Int64))), (.long ((if y0 < y1 then y1 else y0) / (1000000 : Int64))), (.double (own_ratio (x0 + x1) (y0 + y1)))]) (rest := [(.ref b314)]) (lenOf own_pd11 rfl) rfl (by show 2 * 0 + _ ≤ _; exact Nat.le_of_eq rfl) (hb hby d5_142) (fun _ _ => ⟨rfl, eh327, (by decide : 3 + 0 ≤ _), (by decide : 11 + 0 ≤ _)⟩)
  dsimp only [Pt.U, Pt.locs, Pt.cells, Pt.slots] at X328 l328 y328 z328 st328 hQ328
  subst l328 y328 z328
  obtain ⟨rfl, Nq328, K328, F328⟩ := hQ328
  have N328 := Fr.app N327 Nq328
  have Z329 : n0 ≤ T328.heap.size := Nat.le_trans Z315 K328.1
  have K330 : Keep h0 T328.heap [] := K316.trans K328 (allS (Or.inr sz_b314) all0)
  obtain ⟨fs, hr, hrun, hended, hW, hsame⟩ := X328.leave (v := some (.ref b314)) (fun h => by rw [hret0] at h; cases h)
  refine ⟨_, _, pre0 _ ?_, hrun, hended, _, _, rfl, ?_, ⟨_, rfl⟩, hW, hsame.mono (by decide) (by decide)⟩
  · show Steps p.tables e below (s₁.setTop (mkF m 0 #[.val (.ref a1), .unset, .unset, .unset, .unset, .unset, .unset, .unset, .unset, .unset] [])) _
    refine XS.aloadN X0.here hx rfl (hb hby d5_0) rfl rfl ?_
    show Steps p.tables e below (s₁.setTop (mkF m 1 #[.val (.ref a1), .unset, .unset, .unset, .unset, .unset, .unset, .unset, .unset, .unset] [(.ref a1)])) _
    refine st288 _ ?_
    show Steps p.tables e below (T288.setTop (mkF m 4 #[.val (.ref a1), .unset, .unset, .unset, .unset, .unset, .unset, .unset, .unset, .unset] [(.long (2 : Int64))])) _
    refine X288.ldc2Long hx hown (mvT hZ (hw _ (List.mem_of_getElem? (i := 26) rfl))) (g := (mkF m 4 #[.val (.ref a1), .unset, .unset, .unset, .unset, .unset, .unset, .unset, .unset, .unset] [(.long (2 : Int64))])) rfl (hb hby d5_4) _ ?_
    show Steps p.tables e below (T288.setTop (mkF m 7 #[.val (.ref a1), .unset, .unset, .unset, .unset, .unset, .unset, .unset, .unset, .unset] [(.long (1024 : Int64)), (.long (2 : Int64))])) _
    refine st289 _ ?_
    show Steps p.tables e below (T289.setTop (mkF m 10 #[.val (.ref a1), .unset, .unset, .unset, .unset, .unset, .unset, .unset, .unset, .unset] [(.long (if (1024 : Int64) < (2 : Int64) then (1024 : Int64) else (2 : Int64)))])) _
    refine st290 _ ?_
    show Steps p.tables e below (T289.setTop (mkF m 12 #[.val (.ref a1), .val (.int (2 : Int32)), .unset, .unset, .unset, .unset, .unset, .unset, .unset, .unset] [])) _
    refine XS.iloadN X289.here hx rfl (hb hby d5_12) rfl ?_
    show Steps p.tables e below (T289.setTop (mkF m 13 #[.val (.ref a1), .val (.int (2 : Int32)), .unset, .unset, .unset, .unset, .unset, .unset, .unset, .unset] [(.int (2 : Int32))])) _
    refine XS.ifYes X289.here hx rfl (pc0 := 13) (pc' := 20) rfl (hb hby d5_13) rfl ((if0 _ _).trans (feq (by decide)).2) (by decide) (by decide) ?_
    show Steps p.tables e below (T289.setTop (mkF m 20 #[.val (.ref a1), .val (.int (2 : Int32)), .unset, .unset, .unset, .unset, .unset, .unset, .unset, .unset] [])) _
    refine XS.aloadN X289.here hx rfl (hb hby d5_20) rfl rfl ?_
    show Steps p.tables e below (T289.setTop (mkF m 21 #[.val (.ref a1), .val (.int (2 : Int32)), .unset, .unset, .unset, .unset, .unset, .unset, .unset, .unset] [(.ref a1)])) _
    refine st291 _ ?_
    show Steps p.tables e below (T291.setTop (mkF m 24 #[.val (.ref a1), .val (.int (2 : Int32)), .unset, .unset, .unset, .unset, .unset, .unset, .unset, .unset] [(.ref xh)])) _
    refine XS.iloadN X291.here hx rfl (hb hby d5_24) rfl ?_
    show Steps p.tables e below (T291.setTop (mkF m 25 #[.val (.ref a1), .val (.int (2 : Int32)), .unset, .unset, .unset, .unset, .unset, .unset, .unset, .unset] [(.int (2 : Int32)), (.ref xh)])) _
    refine st292 _ ?_
    show Steps p.tables e below (T292.setTop (mkF m 28 #[.val (.ref a1), .val (.int (2 : Int32)), .unset, .unset, .unset, .unset, .unset, .unset, .unset, .unset] [(.ref b2)])) _
    refine XS.astoreN X292.here hx rfl (hb hby d5_28) rfl rfl (l' := #[.val (.ref a1), .val (.int (2 : Int32)), .val (.ref b2), .unset, .unset, .unset, .unset, .unset, .unset, .unset]) rfl ?_
    show Steps p.tables e below (T292.setTop (mkF m 29 #[.val (.ref a1), .val (.int (2 : Int32)), .val (.ref b2), .unset, .unset, .unset, .unset, .unset, .unset, .unset] [])) _
    refine XS.aloadN X292.here hx rfl (hb hby d5_29) rfl rfl ?_
    show Steps p.tables e below (T292.setTop (mkF m 30 #[.val (.ref a1), .val (.int (2 : Int32)), .val (.ref b2), .unset, .unset, .unset, .unset, .unset, .unset, .unset] [(.ref a1)])) _
    refine st296 _ ?_
    show Steps p.tables e below (T296.setTop (mkF m 33 #[.val (.ref a1), .val (.int (2 : Int32)), .val (.ref b2), .unset, .unset, .unset, .unset, .unset, .unset, .unset] [(.ref xb)])) _
    refine XS.iloadN X296.here hx rfl (hb hby d5_33) rfl ?_
    show Steps p.tables e below (T296.setTop (mkF m 34 #[.val (.ref a1), .val (.int (2 : Int32)), .val (.ref b2), .unset, .unset, .unset, .unset, .unset, .unset, .unset] [(.int (2 : Int32)), (.ref xb)])) _
    refine st298 _ ?_
    show Steps p.tables e below (T298.setTop (mkF m 37 #[.val (.ref a1), .val (.int (2 : Int32)), .val (.ref b2), .unset, .unset, .unset, .unset, .unset, .unset, .unset] [(.ref b3)])) _
    refine XS.astoreN X298.here hx rfl (hb hby d5_37) rfl rfl (l' := #[.val (.ref a1), .val (.int (2 : Int32)), .val (.ref b2), .val (.ref b3), .unset, .unset, .unset, .unset, .unset, .unset]) rfl ?_
    show Steps p.tables e below (T298.setTop (mkF m 38 #[.val (.ref a1), .val (.int (2 : Int32)), .val (.ref b2), .val (.ref b3), .unset, .unset, .unset, .unset, .unset, .unset] [])) _
    refine XS.lconst X298.here hx rfl (hb hby d5_38) ?_
    show Steps p.tables e below (T298.setTop (mkF m 39 #[.val (.ref a1), .val (.int (2 : Int32)), .val (.ref b2), .val (.ref b3), .unset, .unset, .unset, .unset, .unset, .unset] [(.long (0 : Int64))])) _
    refine XS.lstore X298.here hx rfl (hb hby d5_39) rfl (l' := #[.val (.ref a1), .val (.int (2 : Int32)), .val (.ref b2), .val (.ref b3), .val (.long (0 : Int64)), .second, .unset, .unset, .unset, .unset]) rfl ?_
    show Steps p.tables e below (T298.setTop (mkF m 41 #[.val (.ref a1), .val (.int (2 : Int32)), .val (.ref b2), .val (.ref b3), .val (.long (0 : Int64)), .second, .unset, .unset, .unset, .unset] [])) _
    refine XS.lconst X298.here hx rfl (hb hby d5_41) ?_
    show Steps p.tables e below (T298.setTop (mkF m 42 #[.val (.ref a1), .val (.int (2 : Int32)), .val (.ref b2), .val (.ref b3), .val (.long (0 : Int64)), .second, .unset, .unset, .unset, .unset] [(.long (0 : Int64))])) _
    refine XS.lstore X298.here hx rfl (hb hby d5_42) rfl (l' := #[.val (.ref a1), .val (.int (2 : Int32)), .val (.ref b2), .val (.ref b3), .val (.long (0 : Int64)), .second, .val (.long (0 : Int64)), .second, .unset, .unset]) rfl ?_
    show Steps p.tables e below (T298.setTop (mkF m 44 #[.val (.ref a1), .val (.int (2 : Int32)), .val (.ref b2), .val (.ref b3), .val (.long (0 : Int64)), .second, .val (.long (0 : Int64)), .second, .unset, .unset] [])) _
    refine XS.iconst X298.here hx rfl (hb hby d5_44) ?_
    show Steps p.tables e below (T298.setTop (mkF m 45 #[.val (.ref a1), .val (.int (2 : Int32)), .val (.ref b2), .val (.ref b3), .val (.long (0 : Int64)), .second, .val (.long (0 : Int64)), .second, .unset, .unset] [(.int (0 : Int32))])) _
    refine XS.istore X298.here hx rfl (hb hby d5_45) rfl (l' := #[.val (.ref a1), .val (.int (2 : Int32)), .val (.ref b2), .val (.ref b3), .val (.long (0 : Int64)), .second, .val (.long (0 : Int64)), .second, .val (.int (0 : Int32)), .unset]) rfl ?_
    show Steps p.tables e below (T298.setTop (mkF m 47 #[.val (.ref a1), .val (.int (2 : Int32)), .val (.ref b2), .val (.ref b3), .val (.long (0 : Int64)), .second, .val (.long (0 : Int64)), .second, .val (.int (0 : Int32)), .unset] [])) _
    refine XS.iload X298.here hx rfl (hb hby d5_47) rfl ?_
    show Steps p.tables e below (T298.setTop (mkF m 49 #[.val (.ref a1), .val (.int (2 : Int32)), .val (.ref b2), .val (.ref b3), .val (.long (0 : Int64)), .second, .val (.long (0 : Int64)), .second, .val (.int (0 : Int32)), .unset] [(.int (0 : Int32))])) _
    refine XS.iloadN X298.here hx rfl (hb hby d5_49) rfl ?_
    show Steps p.tables e below (T298.setTop (mkF m 50 #[.val (.ref a1), .val (.int (2 : Int32)), .val (.ref b2), .val (.ref b3), .val (.long (0 : Int64)), .second, .val (.long (0 : Int64)), .second, .val (.int (0 : Int32)), .unset] [(.int (2 : Int32)), (.int (0 : Int32))])) _
    refine XS.icmpNo X298.here hx rfl (hb hby d5_50) rfl (tlt (by decide)).2.1 ?_
    show Steps p.tables e below (T298.setTop (mkF m 53 #[.val (.ref a1), .val (.int (2 : Int32)), .val (.ref b2), .val (.ref b3), .val (.long (0 : Int64)), .second, .val (.long (0 : Int64)), .second, .val (.int (0 : Int32)), .unset] [])) _
    refine XS.lload X298.here hx rfl (hb hby d5_53) rfl ?_
    show Steps p.tables e below (T298.setTop (mkF m 55 #[.val (.ref a1), .val (.int (2 : Int32)), .val (.ref b2), .val (.ref b3), .val (.long (0 : Int64)), .second, .val (.long (0 : Int64)), .second, .val (.int (0 : Int32)), .unset] [(.long (0 : Int64))])) _
    refine XS.aloadN X298.here hx rfl (hb hby d5_55) rfl rfl ?_
    show Steps p.tables e below (T298.setTop (mkF m 56 #[.val (.ref a1), .val (.int (2 : Int32)), .val (.ref b2), .val (.ref b3), .val (.long (0 : Int64)), .second, .val (.long (0 : Int64)), .second, .val (.int (0 : Int32)), .unset] [(.ref b2), (.long (0 : Int64))])) _
    refine XS.iload X298.here hx rfl (hb hby d5_56) rfl ?_
    show Steps p.tables e below (T298.setTop (mkF m 58 #[.val (.ref a1), .val (.int (2 : Int32)), .val (.ref b2), .val (.ref b3), .val (.long (0 : Int64)), .second, .val (.long (0 : Int64)), .second, .val (.int (0 : Int32)), .unset] [(.int (0 : Int32)), (.ref b2), (.long (0 : Int64))])) _
    refine X298.laload hx (j := (0 : Int32)) (v := (.long x0)) (by rw [show T298.heap = _ from rfl]; exact Ar302.1) (State.isArrayOf_alike hZ.alike Ar302.2.1) Ar302.2.2 hin302 hat302 (g := (mkF m 58 #[.val (.ref a1), .val (.int (2 : Int32)), .val (.ref b2), .val (.ref b3), .val (.long (0 : Int64)), .second, .val (.long (0 : Int64)), .second, .val (.int (0 : Int32)), .unset] [(.int (0 : Int32)), (.ref b2), (.long (0 : Int64))])) rfl rfl (hb hby d5_58) _ ?_
    show Steps p.tables e below (T298.setTop (mkF m 59 #[.val (.ref a1), .val (.int (2 : Int32)), .val (.ref b2), .val (.ref b3), .val (.long (0 : Int64)), .second, .val (.long (0 : Int64)), .second, .val (.int (0 : Int32)), .unset] [(.long x0), (.long (0 : Int64))])) _
    refine XS.ladd X298.here hx rfl (hb hby d5_59) rfl ?_
    show Steps p.tables e below (T298.setTop (mkF m 60 #[.val (.ref a1), .val (.int (2 : Int32)), .val (.ref b2), .val (.ref b3), .val (.long (0 : Int64)), .second, .val (.long (0 : Int64)), .second, .val (.int (0 : Int32)), .unset] [(.long ((0 : Int64) + x0))])) _
    refine XS.lstore X298.here hx rfl (hb hby d5_60) rfl (l' := #[.val (.ref a1), .val (.int (2 : Int32)), .val (.ref b2), .val (.ref b3), .val (.long ((0 : Int64) + x0)), .second, .val (.long (0 : Int64)), .second, .val (.int (0 : Int32)), .unset]) rfl ?_
    show Steps p.tables e below (T298.setTop (mkF m 62 #[.val (.ref a1), .val (.int (2 : Int32)), .val (.ref b2), .val (.ref b3), .val (.long ((0 : Int64) + x0)), .second, .val (.long (0 : Int64)), .second, .val (.int (0 : Int32)), .unset] [])) _
    refine XS.lload X298.here hx rfl (hb hby d5_62) rfl ?_
    show Steps p.tables e below (T298.setTop (mkF m 64 #[.val (.ref a1), .val (.int (2 : Int32)), .val (.ref b2), .val (.ref b3), .val (.long ((0 : Int64) + x0)), .second, .val (.long (0 : Int64)), .second, .val (.int (0 : Int32)), .unset] [(.long (0 : Int64))])) _
    refine XS.aloadN X298.here hx rfl (hb hby d5_64) rfl rfl ?_
    show Steps p.tables e below (T298.setTop (mkF m 65 #[.val (.ref a1), .val (.int (2 : Int32)), .val (.ref b2), .val (.ref b3), .val (.long ((0 : Int64) + x0)), .second, .val (.long (0 : Int64)), .second, .val (.int (0 : Int32)), .unset] [(.ref b3), (.long (0 : Int64))])) _
    refine XS.iload X298.here hx rfl (hb hby d5_65) rfl ?_
    show Steps p.tables e below (T298.setTop (mkF m 67 #[.val (.ref a1), .val (.int (2 : Int32)), .val (.ref b2), .val (.ref b3), .val (.long ((0 : Int64) + x0)), .second, .val (.long (0 : Int64)), .second, .val (.int (0 : Int32)), .unset] [(.int (0 : Int32)), (.ref b3), (.long (0 : Int64))])) _
    refine X298.laload hx (j := (0 : Int32)) (v := (.long y0)) (by rw [show T298.heap = _ from rfl]; exact Ar303.1) (State.isArrayOf_alike hZ.alike Ar303.2.1) Ar303.2.2 hin303 hat303 (g := (mkF m 67 #[.val (.ref a1), .val (.int (2 : Int32)), .val (.ref b2), .val (.ref b3), .val (.long ((0 : Int64) + x0)), .second, .val (.long (0 : Int64)), .second, .val (.int (0 : Int32)), .unset] [(.int (0 : Int32)), (.ref b3), (.long (0 : Int64))])) rfl rfl (hb hby d5_67) _ ?_
    show Steps p.tables e below (T298.setTop (mkF m 68 #[.val (.ref a1), .val (.int (2 : Int32)), .val (.ref b2), .val (.ref b3), .val (.long ((0 : Int64) + x0)), .second, .val (.long (0 : Int64)), .second, .val (.int (0 : Int32)), .unset] [(.long y0), (.long (0 : Int64))])) _
    refine XS.ladd X298.here hx rfl (hb hby d5_68) rfl ?_
    show Steps p.tables e below (T298.setTop (mkF m 69 #[.val (.ref a1), .val (.int (2 : Int32)), .val (.ref b2), .val (.ref b3), .val (.long ((0 : Int64) + x0)), .second, .val (.long (0 : Int64)), .second, .val (.int (0 : Int32)), .unset] [(.long ((0 : Int64) + y0))])) _
    refine XS.lstore X298.here hx rfl (hb hby d5_69) rfl (l' := #[.val (.ref a1), .val (.int (2 : Int32)), .val (.ref b2), .val (.ref b3), .val (.long ((0 : Int64) + x0)), .second, .val (.long ((0 : Int64) + y0)), .second, .val (.int (0 : Int32)), .unset]) rfl ?_
    show Steps p.tables e below (T298.setTop (mkF m 71 #[.val (.ref a1), .val (.int (2 : Int32)), .val (.ref b2), .val (.ref b3), .val (.long ((0 : Int64) + x0)), .second, .val (.long ((0 : Int64) + y0)), .second, .val (.int (0 : Int32)), .unset] [])) _
    refine XS.iinc X298.here hx rfl (hb hby d5_71) rfl (l' := #[.val (.ref a1), .val (.int (2 : Int32)), .val (.ref b2), .val (.ref b3), .val (.long ((0 : Int64) + x0)), .second, .val (.long ((0 : Int64) + y0)), .second, .val (.int ((0 : Int32) + (1 : Int32))), .unset]) rfl ?_
    show Steps p.tables e below (T298.setTop (mkF m 74 #[.val (.ref a1), .val (.int (2 : Int32)), .val (.ref b2), .val (.ref b3), .val (.long ((0 : Int64) + x0)), .second, .val (.long ((0 : Int64) + y0)), .second, .val (.int ((0 : Int32) + (1 : Int32))), .unset] [])) _
    refine XS.goto X298.here hx rfl (pc0 := 74) (pc' := 47) rfl (hb hby d5_74) (by decide) (by decide) ?_
    show Steps p.tables e below (T298.setTop (mkF m 47 #[.val (.ref a1), .val (.int (2 : Int32)), .val (.ref b2), .val (.ref b3), .val (.long ((0 : Int64) + x0)), .second, .val (.long ((0 : Int64) + y0)), .second, .val (.int ((0 : Int32) + (1 : Int32))), .unset] [])) _
    refine XS.iload X298.here hx rfl (hb hby d5_47) rfl ?_
    show Steps p.tables e below (T298.setTop (mkF m 49 #[.val (.ref a1), .val (.int (2 : Int32)), .val (.ref b2), .val (.ref b3), .val (.long ((0 : Int64) + x0)), .second, .val (.long ((0 : Int64) + y0)), .second, .val (.int ((0 : Int32) + (1 : Int32))), .unset] [(.int ((0 : Int32) + (1 : Int32)))])) _
    refine XS.iloadN X298.here hx rfl (hb hby d5_49) rfl ?_
    show Steps p.tables e below (T298.setTop (mkF m 50 #[.val (.ref a1), .val (.int (2 : Int32)), .val (.ref b2), .val (.ref b3), .val (.long ((0 : Int64) + x0)), .second, .val (.long ((0 : Int64) + y0)), .second, .val (.int ((0 : Int32) + (1 : Int32))), .unset] [(.int (2 : Int32)), (.int ((0 : Int32) + (1 : Int32)))])) _
    refine XS.icmpNo X298.here hx rfl (hb hby d5_50) rfl (tlt (by decide)).2.1 ?_
    show Steps p.tables e below (T298.setTop (mkF m 53 #[.val (.ref a1), .val (.int (2 : Int32)), .val (.ref b2), .val (.ref b3), .val (.long ((0 : Int64) + x0)), .second, .val (.long ((0 : Int64) + y0)), .second, .val (.int ((0 : Int32) + (1 : Int32))), .unset] [])) _
    refine XS.lload X298.here hx rfl (hb hby d5_53) rfl ?_
    show Steps p.tables e below (T298.setTop (mkF m 55 #[.val (.ref a1), .val (.int (2 : Int32)), .val (.ref b2), .val (.ref b3), .val (.long ((0 : Int64) + x0)), .second, .val (.long ((0 : Int64) + y0)), .second, .val (.int ((0 : Int32) + (1 : Int32))), .unset] [(.long ((0 : Int64) + x0))])) _
    refine XS.aloadN X298.here hx rfl (hb hby d5_55) rfl rfl ?_
    show Steps p.tables e below (T298.setTop (mkF m 56 #[.val (.ref a1), .val (.int (2 : Int32)), .val (.ref b2), .val (.ref b3), .val (.long ((0 : Int64) + x0)), .second, .val (.long ((0 : Int64) + y0)), .second, .val (.int ((0 : Int32) + (1 : Int32))), .unset] [(.ref b2), (.long ((0 : Int64) + x0))])) _
    refine XS.iload X298.here hx rfl (hb hby d5_56) rfl ?_
    show Steps p.tables e below (T298.setTop (mkF m 58 #[.val (.ref a1), .val (.int (2 : Int32)), .val (.ref b2), .val (.ref b3), .val (.long ((0 : Int64) + x0)), .second, .val (.long ((0 : Int64) + y0)), .second, .val (.int ((0 : Int32) + (1 : Int32))), .unset] [(.int ((0 : Int32) + (1 : Int32))), (.ref b2), (.long ((0 : Int64) + x0))])) _
    refine X298.laload hx (j := ((0 : Int32) + (1 : Int32))) (v := (.long x1)) (by rw [show T298.heap = _ from rfl]; exact Ar304.1) (State.isArrayOf_alike hZ.alike Ar304.2.1) Ar304.2.2 hin304 hat304 (g := (mkF m 58 #[.val (.ref a1), .val (.int (2 : Int32)), .val (.ref b2), .val (.ref b3), .val (.long ((0 : Int64) + x0)), .second, .val (.long ((0 : Int64) + y0)), .second, .val (.int ((0 : Int32) + (1 : Int32))), .unset] [(.int ((0 : Int32) + (1 : Int32))), (.ref b2), (.long ((0 : Int64) + x0))])) rfl rfl (hb hby d5_58) _ ?_
    show Steps p.tables e below (T298.setTop (mkF m 59 #[.val (.ref a1), .val (.int (2 : Int32)), .val (.ref b2), .val (.ref b3), .val (.long ((0 : Int64) + x0)), .second, .val (.long ((0 : Int64) + y0)), .second, .val (.int ((0 : Int32) + (1 : Int32))), .unset] [(.long x1), (.long ((0 : Int64) + x0))])) _
    refine XS.ladd X298.here hx rfl (hb hby d5_59) rfl ?_
    show Steps p.tables e below (T298.setTop (mkF m 60 #[.val (.ref a1), .val (.int (2 : Int32)), .val (.ref b2), .val (.ref b3), .val (.long ((0 : Int64) + x0)), .second, .val (.long ((0 : Int64) + y0)), .second, .val (.int ((0 : Int32) + (1 : Int32))), .unset] [(.long (((0 : Int64) + x0) + x1))])) _
    refine XS.lstore X298.here hx rfl (hb hby d5_60) rfl (l' := #[.val (.ref a1), .val (.int (2 : Int32)), .val (.ref b2), .val (.ref b3), .val (.long (((0 : Int64) + x0) + x1)), .second, .val (.long ((0 : Int64) + y0)), .second, .val (.int ((0 : Int32) + (1 : Int32))), .unset]) rfl ?_
    show Steps p.tables e below (T298.setTop (mkF m 62 #[.val (.ref a1), .val (.int (2 : Int32)), .val (.ref b2), .val (.ref b3), .val (.long (((0 : Int64) + x0) + x1)), .second, .val (.long ((0 : Int64) + y0)), .second, .val (.int ((0 : Int32) + (1 : Int32))), .unset] [])) _
    refine XS.lload X298.here hx rfl (hb hby d5_62) rfl ?_
    show Steps p.tables e below (T298.setTop (mkF m 64 #[.val (.ref a1), .val (.int (2 : Int32)), .val (.ref b2), .val (.ref b3), .val (.long (((0 : Int64) + x0) + x1)), .second, .val (.long ((0 : Int64) + y0)), .second, .val (.int ((0 : Int32) + (1 : Int32))), .unset] [(.long ((0 : Int64) + y0))])) _
    refine XS.aloadN X298.here hx rfl (hb hby d5_64) rfl rfl ?_
    show Steps p.tables e below (T298.setTop (mkF m 65 #[.val (.ref a1), .val (.int (2 : Int32)), .val (.ref b2), .val (.ref b3), .val (.long (((0 : Int64) + x0) + x1)), .second, .val (.long ((0 : Int64) + y0)), .second, .val (.int ((0 : Int32) + (1 : Int32))), .unset] [(.ref b3), (.long ((0 : Int64) + y0))])) _
    refine XS.iload X298.here hx rfl (hb hby d5_65) rfl ?_
    show Steps p.tables e below (T298.setTop (mkF m 67 #[.val (.ref a1), .val (.int (2 : Int32)), .val (.ref b2), .val (.ref b3), .val (.long (((0 : Int64) + x0) + x1)), .second, .val (.long ((0 : Int64) + y0)), .second, .val (.int ((0 : Int32) + (1 : Int32))), .unset] [(.int ((0 : Int32) + (1 : Int32))), (.ref b3), (.long ((0 : Int64) + y0))])) _
    refine X298.laload hx (j := ((0 : Int32) + (1 : Int32))) (v := (.long y1)) (by rw [show T298.heap = _ from rfl]; exact Ar305.1) (State.isArrayOf_alike hZ.alike Ar305.2.1) Ar305.2.2 hin305 hat305 (g := (mkF m 67 #[.val (.ref a1), .val (.int (2 : Int32)), .val (.ref b2), .val (.ref b3), .val (.long (((0 : Int64) + x0) + x1)), .second, .val (.long ((0 : Int64) + y0)), .second, .val (.int ((0 : Int32) + (1 : Int32))), .unset] [(.int ((0 : Int32) + (1 : Int32))), (.ref b3), (.long ((0 : Int64) + y0))])) rfl rfl (hb hby d5_67) _ ?_
    show Steps p.tables e below (T298.setTop (mkF m 68 #[.val (.ref a1), .val (.int (2 : Int32)), .val (.ref b2), .val (.ref b3), .val (.long (((0 : Int64) + x0) + x1)), .second, .val (.long ((0 : Int64) + y0)), .second, .val (.int ((0 : Int32) + (1 : Int32))), .unset] [(.long y1), (.long ((0 : Int64) + y0))])) _
    refine XS.ladd X298.here hx rfl (hb hby d5_68) rfl ?_
    show Steps p.tables e below (T298.setTop (mkF m 69 #[.val (.ref a1), .val (.int (2 : Int32)), .val (.ref b2), .val (.ref b3), .val (.long (((0 : Int64) + x0) + x1)), .second, .val (.long ((0 : Int64) + y0)), .second, .val (.int ((0 : Int32) + (1 : Int32))), .unset] [(.long (((0 : Int64) + y0) + y1))])) _
    refine XS.lstore X298.here hx rfl (hb hby d5_69) rfl (l' := #[.val (.ref a1), .val (.int (2 : Int32)), .val (.ref b2), .val (.ref b3), .val (.long (((0 : Int64) + x0) + x1)), .second, .val (.long (((0 : Int64) + y0) + y1)), .second, .val (.int ((0 : Int32) + (1 : Int32))), .unset]) rfl ?_
    show Steps p.tables e below (T298.setTop (mkF m 71 #[.val (.ref a1), .val (.int (2 : Int32)), .val (.ref b2), .val (.ref b3), .val (.long (((0 : Int64) + x0) + x1)), .second, .val (.long (((0 : Int64) + y0) + y1)), .second, .val (.int ((0 : Int32) + (1 : Int32))), .unset] [])) _
    refine XS.iinc X298.here hx rfl (hb hby d5_71) rfl (l' := #[.val (.ref a1), .val (.int (2 : Int32)), .val (.ref b2), .val (.ref b3), .val (.long (((0 : Int64) + x0) + x1)), .second, .val (.long (((0 : Int64) + y0) + y1)), .second, .val (.int (((0 : Int32) + (1 : Int32)) + (1 : Int32))), .unset]) rfl ?_
    show Steps p.tables e below (T298.setTop (mkF m 74 #[.val (.ref a1), .val (.int (2 : Int32)), .val (.ref b2), .val (.ref b3), .val (.long (((0 : Int64) + x0) + x1)), .second, .val (.long (((0 : Int64) + y0) + y1)), .second, .val (.int (((0 : Int32) + (1 : Int32)) + (1 : Int32))), .unset] [])) _
    refine XS.goto X298.here hx rfl (pc0 := 74) (pc' := 47) rfl (hb hby d5_74) (by decide) (by decide) ?_
    show Steps p.tables e below (T298.setTop (mkF m 47 #[.val (.ref a1), .val (.int (2 : Int32)), .val (.ref b2), .val (.ref b3), .val (.long (((0 : Int64) + x0) + x1)), .second, .val (.long (((0 : Int64) + y0) + y1)), .second, .val (.int (((0 : Int32) + (1 : Int32)) + (1 : Int32))), .unset] [])) _
    refine XS.iload X298.here hx rfl (hb hby d5_47) rfl ?_
    show Steps p.tables e below (T298.setTop (mkF m 49 #[.val (.ref a1), .val (.int (2 : Int32)), .val (.ref b2), .val (.ref b3), .val (.long (((0 : Int64) + x0) + x1)), .second, .val (.long (((0 : Int64) + y0) + y1)), .second, .val (.int (((0 : Int32) + (1 : Int32)) + (1 : Int32))), .unset] [(.int (((0 : Int32) + (1 : Int32)) + (1 : Int32)))])) _
    refine XS.iloadN X298.here hx rfl (hb hby d5_49) rfl ?_
    show Steps p.tables e below (T298.setTop (mkF m 50 #[.val (.ref a1), .val (.int (2 : Int32)), .val (.ref b2), .val (.ref b3), .val (.long (((0 : Int64) + x0) + x1)), .second, .val (.long (((0 : Int64) + y0) + y1)), .second, .val (.int (((0 : Int32) + (1 : Int32)) + (1 : Int32))), .unset] [(.int (2 : Int32)), (.int (((0 : Int32) + (1 : Int32)) + (1 : Int32)))])) _
    refine XS.icmpYes X298.here hx rfl (pc0 := 50) (pc' := 77) rfl (hb hby d5_50) rfl (flt (by decide)).2.1 (by decide) (by decide) ?_
    show Steps p.tables e below (T298.setTop (mkF m 77 #[.val (.ref a1), .val (.int (2 : Int32)), .val (.ref b2), .val (.ref b3), .val (.long (((0 : Int64) + x0) + x1)), .second, .val (.long (((0 : Int64) + y0) + y1)), .second, .val (.int (((0 : Int32) + (1 : Int32)) + (1 : Int32))), .unset] [])) _
    refine XS.aloadN X298.here hx rfl (hb hby d5_77) rfl rfl ?_
    show Steps p.tables e below (T298.setTop (mkF m 78 #[.val (.ref a1), .val (.int (2 : Int32)), .val (.ref b2), .val (.ref b3), .val (.long (((0 : Int64) + x0) + x1)), .second, .val (.long (((0 : Int64) + y0) + y1)), .second, .val (.int (((0 : Int32) + (1 : Int32)) + (1 : Int32))), .unset] [(.ref b2)])) _
    refine st306 _ ?_
    show Steps p.tables e below (T306.setTop (mkF m 81 #[.val (.ref a1), .val (.int (2 : Int32)), .val (.ref b2), .val (.ref b3), .val (.long (((0 : Int64) + x0) + x1)), .second, .val (.long (((0 : Int64) + y0) + y1)), .second, .val (.int (((0 : Int32) + (1 : Int32)) + (1 : Int32))), .unset] [])) _
    refine XS.aloadN X306.here hx rfl (hb hby d5_81) rfl rfl ?_
    show Steps p.tables e below (T306.setTop (mkF m 82 #[.val (.ref a1), .val (.int (2 : Int32)), .val (.ref b2), .val (.ref b3), .val (.long (((0 : Int64) + x0) + x1)), .second, .val (.long (((0 : Int64) + y0) + y1)), .second, .val (.int (((0 : Int32) + (1 : Int32)) + (1 : Int32))), .unset] [(.ref b3)])) _
    refine st310 _ ?_
    show Steps p.tables e below (T310.setTop (mkF m 85 #[.val (.ref a1), .val (.int (2 : Int32)), .val (.ref b2), .val (.ref b3), .val (.long (((0 : Int64) + x0) + x1)), .second, .val (.long (((0 : Int64) + y0) + y1)), .second, .val (.int (((0 : Int32) + (1 : Int32)) + (1 : Int32))), .unset] [])) _
    refine st313 _ ?_
    show Steps p.tables e below (T310.setTop (mkF m 104 #[.val (.ref a1), .val (.int (2 : Int32)), .val (.ref b2), .val (.ref b3), .val (.long (((0 : Int64) + x0) + x1)), .second, .val (.long (((0 : Int64) + y0) + y1)), .second, .val (.double (own_ratio (x0 + x1) (y0 + y1))), .second] [])) _
    refine st314 _ ?_
    show Steps p.tables e below (T314.setTop (mkF m 107 #[.val (.ref a1), .val (.int (2 : Int32)), .val (.ref b2), .val (.ref b3), .val (.long (((0 : Int64) + x0) + x1)), .second, .val (.long (((0 : Int64) + y0) + y1)), .second, .val (.double (own_ratio (x0 + x1) (y0 + y1))), .second] [(.ref b314)])) _
    refine XS.dup X314.here hx rfl (hb hby d5_107) rfl rfl ?_
    show Steps p.tables e below (T314.setTop (mkF m 108 #[.val (.ref a1), .val (.int (2 : Int32)), .val (.ref b2), .val (.ref b3), .val (.long (((0 : Int64) + x0) + x1)), .second, .val (.long (((0 : Int64) + y0) + y1)), .second, .val (.double (own_ratio (x0 + x1) (y0 + y1))), .second] [(.ref b314), (.ref b314)])) _
    refine XS.aloadN X314.here hx rfl (hb hby d5_108) rfl rfl ?_
    show Steps p.tables e below (T314.setTop (mkF m 109 #[.val (.ref a1), .val (.int (2 : Int32)), .val (.ref b2), .val (.ref b3), .val (.long (((0 : Int64) + x0) + x1)), .second, .val (.long (((0 : Int64) + y0) + y1)), .second, .val (.double (own_ratio (x0 + x1) (y0 + y1))), .second] [(.ref a1), (.ref b314), (.ref b314)])) _
    refine st318 _ ?_
    show Steps p.tables e below (T318.setTop (mkF m 112 #[.val (.ref a1), .val (.int (2 : Int32)), .val (.ref b2), .val (.ref b3), .val (.long (((0 : Int64) + x0) + x1)), .second, .val (.long (((0 : Int64) + y0) + y1)), .second, .val (.double (own_ratio (x0 + x1) (y0 + y1))), .second] [(.long (2 : Int64)), (.ref b314), (.ref b314)])) _
    refine XS.aloadN X318.here hx rfl (hb hby d5_112) rfl rfl ?_
    show Steps p.tables e below (T318.setTop (mkF m 113 #[.val (.ref a1), .val (.int (2 : Int32)), .val (.ref b2), .val (.ref b3), .val (.long (((0 : Int64) + x0) + x1)), .second, .val (.long (((0 : Int64) + y0) + y1)), .second, .val (.double (own_ratio (x0 + x1) (y0 + y1))), .second] [(.ref a1), (.long (2 : Int64)), (.ref b314), (.ref b314)])) _
    refine st320 _ ?_
    show Steps p.tables e below (T320.setTop (mkF m 116 #[.val (.ref a1), .val (.int (2 : Int32)), .val (.ref b2), .val (.ref b3), .val (.long (((0 : Int64) + x0) + x1)), .second, .val (.long (((0 : Int64) + y0) + y1)), .second, .val (.double (own_ratio (x0 + x1) (y0 + y1))), .second] [(.long rb), (.long (2 : Int64)), (.ref b314), (.ref b314)])) _
    refine XS.aloadN X320.here hx rfl (hb hby d5_116) rfl rfl ?_
    show Steps p.tables e below (T320.setTop (mkF m 117 #[.val (.ref a1), .val (.int (2 : Int32)), .val (.ref b2), .val (.ref b3), .val (.long (((0 : Int64) + x0) + x1)), .second, .val (.long (((0 : Int64) + y0) + y1)), .second, .val (.double (own_ratio (x0 + x1) (y0 + y1))), .second] [(.ref b2), (.long rb), (.long (2 : Int64)), (.ref b314), (.ref b314)])) _
    refine XS.bipush X320.here hx rfl (hb hby d5_117) ?_
    show Steps p.tables e below (T320.setTop (mkF m 119 #[.val (.ref a1), .val (.int (2 : Int32)), .val (.ref b2), .val (.ref b3), .val (.long (((0 : Int64) + x0) + x1)), .second, .val (.long (((0 : Int64) + y0) + y1)), .second, .val (.double (own_ratio (x0 + x1) (y0 + y1))), .second] [(.int (50 : Int32)), (.ref b2), (.long rb), (.long (2 : Int64)), (.ref b314), (.ref b314)])) _
    refine st323 _ ?_
    show Steps p.tables e below (T323.setTop (mkF m 122 #[.val (.ref a1), .val (.int (2 : Int32)), .val (.ref b2), .val (.ref b3), .val (.long (((0 : Int64) + x0) + x1)), .second, .val (.long (((0 : Int64) + y0) + y1)), .second, .val (.double (own_ratio (x0 + x1) (y0 + y1))), .second] [(.long ((if x1 < x0 then x1 else x0) / (1000000 : Int64))), (.long rb), (.long (2 : Int64)), (.ref b314), (.ref b314)])) _
    refine XS.aloadN X323.here hx rfl (hb hby d5_122) rfl rfl ?_
    show Steps p.tables e below (T323.setTop (mkF m 123 #[.val (.ref a1), .val (.int (2 : Int32)), .val (.ref b2), .val (.ref b3), .val (.long (((0 : Int64) + x0) + x1)), .second, .val (.long (((0 : Int64) + y0) + y1)), .second, .val (.double (own_ratio (x0 + x1) (y0 + y1))), .second] [(.ref b2), (.long ((if x1 < x0 then x1 else x0) / (1000000 : Int64))), (.long rb), (.long (2 : Int64)), (.ref b314), (.ref b314)])) _
    refine XS.bipush X323.here hx rfl (hb hby d5_123) ?_
    show Steps p.tables e below (T323.setTop (mkF m 125 #[.val (.ref a1), .val (.int (2 : Int32)), .val (.ref b2), .val (.ref b3), .val (.long (((0 : Int64) + x0) + x1)), .second, .val (.long (((0 : Int64) + y0) + y1)), .second, .val (.double (own_ratio (x0 + x1) (y0 + y1))), .second] [(.int (99 : Int32)), (.ref b2), (.long ((if x1 < x0 then x1 else x0) / (1000000 : Int64))), (.long rb), (.long (2 : Int64)), (.ref b314), (.ref b314)])) _
    refine st324 _ ?_
    show Steps p.tables e below (T324.setTop (mkF m 128 #[.val (.ref a1), .val (.int (2 : Int32)), .val (.ref b2), .val (.ref b3), .val (.long (((0 : Int64) + x0) + x1)), .second, .val (.long (((0 : Int64) + y0) + y1)), .second, .val (.double (own_ratio (x0 + x1) (y0 + y1))), .second] [(.long ((if x0 < x1 then x1 else x0) / (1000000 : Int64))), (.long ((if x1 < x0 then x1 else x0) / (1000000 : Int64))), (.long rb), (.long (2 : Int64)), (.ref b314), (.ref b314)])) _
    refine XS.aloadN X324.here hx rfl (hb hby d5_128) rfl rfl ?_
    show Steps p.tables e below (T324.setTop (mkF m 129 #[.val (.ref a1), .val (.int (2 : Int32)), .val (.ref b2), .val (.ref b3), .val (.long (((0 : Int64) + x0) + x1)), .second, .val (.long (((0 : Int64) + y0) + y1)), .second, .val (.double (own_ratio (x0 + x1) (y0 + y1))), .second] [(.ref b3), (.long ((if x0 < x1 then x1 else x0) / (1000000 : Int64))), (.long ((if x1 < x0 then x1 else x0) / (1000000 : Int64))), (.long rb), (.long (2 : Int64)), (.ref b314), (.ref b314)])) _
    refine XS.bipush X324.here hx rfl (hb hby d5_129) ?_
    show Steps p.tables e below (T324.setTop (mkF m 131 #[.val (.ref a1), .val (.int (2 : Int32)), .val (.ref b2), .val (.ref b3), .val (.long (((0 : Int64) + x0) + x1)), .second, .val (.long (((0 : Int64) + y0) + y1)), .second, .val (.double (own_ratio (x0 + x1) (y0 + y1))), .second] [(.int (50 : Int32)), (.ref b3), (.long ((if x0 < x1 then x1 else x0) / (1000000 : Int64))), (.long ((if x1 < x0 then x1 else x0) / (1000000 : Int64))), (.long rb), (.long (2 : Int64)), (.ref b314), (.ref b314)])) _
    refine st326 _ ?_
    show Steps p.tables e below (T326.setTop (mkF m 134 #[.val (.ref a1), .val (.int (2 : Int32)), .val (.ref b2), .val (.ref b3), .val (.long (((0 : Int64) + x0) + x1)), .second, .val (.long (((0 : Int64) + y0) + y1)), .second, .val (.double (own_ratio (x0 + x1) (y0 + y1))), .second] [(.long ((if y1 < y0 then y1 else y0) / (1000000 : Int64))), (.long ((if x0 < x1 then x1 else x0) / (1000000 : Int64))), (.long ((if x1 < x0 then x1 else x0) / (1000000 : Int64))), (.long rb), (.long (2 : Int64)), (.ref b314), (.ref b314)])) _
    refine XS.aloadN X326.here hx rfl (hb hby d5_134) rfl rfl ?_
    show Steps p.tables e below (T326.setTop (mkF m 135 #[.val (.ref a1), .val (.int (2 : Int32)), .val (.ref b2), .val (.ref b3), .val (.long (((0 : Int64) + x0) + x1)), .second, .val (.long (((0 : Int64) + y0) + y1)), .second, .val (.double (own_ratio (x0 + x1) (y0 + y1))), .second] [(.ref b3), (.long ((if y1 < y0 then y1 else y0) / (1000000 : Int64))), (.long ((if x0 < x1 then x1 else x0) / (1000000 : Int64))), (.long ((if x1 < x0 then x1 else x0) / (1000000 : Int64))), (.long rb), (.long (2 : Int64)), (.ref b314), (.ref b314)])) _
    refine XS.bipush X326.here hx rfl (hb hby d5_135) ?_
    show Steps p.tables e below (T326.setTop (mkF m 137 #[.val (.ref a1), .val (.int (2 : Int32)), .val (.ref b2), .val (.ref b3), .val (.long (((0 : Int64) + x0) + x1)), .second, .val (.long (((0 : Int64) + y0) + y1)), .second, .val (.double (own_ratio (x0 + x1) (y0 + y1))), .second] [(.int (99 : Int32)), (.ref b3), (.long ((if y1 < y0 then y1 else y0) / (1000000 : Int64))), (.long ((if x0 < x1 then x1 else x0) / (1000000 : Int64))), (.long ((if x1 < x0 then x1 else x0) / (1000000 : Int64))), (.long rb), (.long (2 : Int64)), (.ref b314), (.ref b314)])) _
    refine st327 _ ?_
    show Steps p.tables e below (T327.setTop (mkF m 140 #[.val (.ref a1), .val (.int (2 : Int32)), .val (.ref b2), .val (.ref b3), .val (.long (((0 : Int64) + x0) + x1)), .second, .val (.long (((0 : Int64) + y0) + y1)), .second, .val (.double (own_ratio (x0 + x1) (y0 + y1))), .second] [(.long ((if y0 < y1 then y1 else y0) / (1000000 : Int64))), (.long ((if y1 < y0 then y1 else y0) / (1000000 : Int64))), (.long ((if x0 < x1 then x1 else x0) / (1000000 : Int64))), (.long ((if x1 < x0 then x1 else x0) / (1000000 : Int64))), (.long rb), (.long (2 : Int64)), (.ref b314), (.ref b314)])) _
    refine XS.dload X327.here hx rfl (hb hby d5_140) rfl ?_
    show Steps p.tables e below (T327.setTop (mkF m 142 #[.val (.ref a1), .val (.int (2 : Int32)), .val (.ref b2), .val (.ref b3), .val (.long (((0 : Int64) + x0) + x1)), .second, .val (.long (((0 : Int64) + y0) + y1)), .second, .val (.double (own_ratio (x0 + x1) (y0 + y1))), .second] [(.double (own_ratio (x0 + x1) (y0 + y1))), (.long ((if y0 < y1 then y1 else y0) / (1000000 : Int64))), (.long ((if y1 < y0 then y1 else y0) / (1000000 : Int64))), (.long ((if x0 < x1 then x1 else x0) / (1000000 : Int64))), (.long ((if x1 < x0 then x1 else x0) / (1000000 : Int64))), (.long rb), (.long (2 : Int64)), (.ref b314), (.ref b314)])) _
    refine st328.trans ?_
    show Steps p.tables e below (T328.setTop (mkF m 145 #[.val (.ref a1), .val (.int (2 : Int32)), .val (.ref b2), .val (.ref b3), .val (.long (((0 : Int64) + x0) + x1)), .second, .val (.long (((0 : Int64) + y0) + y1)), .second, .val (.double (own_ratio (x0 + x1) (y0 + y1))), .second] [(.ref b314)])) _
    exact retR X328 hx hret0 rfl rfl rfl (hb hby d5_145) hr
  · show QSt2 Z x0 x1 y0 y1 rb h0 n0 _ T328.heap _
    exact ⟨b314, rfl, N328, own_ext K330, F328⟩
def Q0 (n0 : Nat) (v : Option Value) (h : Heap) (L : List Loc) : Prop := v = some (.int 1) ∧ Fr n0 L
theorem own_pn_rm0 : plainName "com/example/nosy_pool/nosypool/CheckoutHistoryRecordPinLaw" = true := by first | (simp [plainName, overriddenIn]; done) | decide +kernel
theorem own_ef_rm0 (m : MethodId) (p0 : Int64) (p1 : Int64) (p2 : Int64) (p3 : Int64) (p4 : Int32) : entryFrame m #[(.long p0), (.long p1), (.long p2), (.long p3), (.int p4)] maxLocals = (mkF m 0 #[.val (.long p0), .second, .val (.long p1), .second, .val (.long p2), .second, .val (.long p3), .second, .val (.int p4), .unset, .unset, .unset, .unset, .unset, .unset, .unset, .unset, .unset, .unset, .unset, .unset, .unset, .unset, .unset, .unset, .unset, .unset, .unset, .unset, .unset, .unset, .unset] []) := by first | (simp [entryFrame, mkF, argsToLocals, Value.category, maxLocals]; done) | rfl
set_option maxRecDepth 65536 in
set_option maxHeartbeats 40000000 in
theorem rm0 (l : Launch) (Z : State) (a0 : Array Value) (hw : ∀ d ∈ tables_1, d.before a0 Z = true) (ws : List Jvm.Cond) (p0 : Int64) (p1 : Int64) (p2 : Int64) (p3 : Int64) (p4 : Int32) (tu : Addr) (h0 : Heap) (n0 : Nat) (Z0 : n0 ≤ h0.size) (O6 : Sta Z Z.heap "java/util/concurrent/TimeUnit" "NANOSECONDS" "Ljava/util/concurrent/TimeUnit;" (.ref tu)) (ET : Exa Z Z.heap tu "java/util/concurrent/TimeUnit") (FT1 : Fld Z Z.heap tu "java/util/concurrent/TimeUnit" "scale" "J" (.long (1 : Int64))) (FT2 : Fld Z Z.heap tu "java/util/concurrent/TimeUnit" "milliRatio" "I" (.int (1000000 : Int32))) (X00 : Old Z n0 h0) :
    MetFree l x (head1 (Jvm.Cond.code x code maxLocals ret :: ws) room_1) (fun a U => a = #[(.long p0), (.long p1), (.long p2), (.long p3), (.int p4)] ∧ Z.Warmed39 U.vm ∧ U.heap = h0) (fun _ _ _ _ _ => True) (fun _ U o U' => ∃ v L, o = .returned v ∧ Q0 n0 v U'.heap L ∧ FrameEnd U o U' L 24 4224) := by
  refine MetFree.of_bodySF (plainFor_of_name own_pn_rm0) hisR ?_
  intro p e s m args below meth c s₁ Bd hml0 hP hK
  obtain ⟨hargs, hZ, hh⟩ := hP
  have hx := Bd.exec
  have hby := Bd.bytes
  have hml : c.maxLocals = 32 := hml0
  have hown : s.vm.findClass "com/example/nosy_pool/nosypool/CheckoutHistoryRecordPinLaw" = some m.cls := findClass_of_methodNamed Bd.named
  have hnm := (name_of_methodNamed Bd.named Bd.method).1
  have hlock : meth.locks = false := Bd.notSynchronized
  have hret0 := Bd.returns
  have X0 : Stand p l e room_1 s m args below meth c s₁ [] 0 0 := Stand.of_body Bd
  have e0 : s₁.heap = h0 := by rw [← hh, Bd.state]; rfl
  have N0 := Fr.nil n0
  have pre0 : ∀ t, Steps p.tables e below (s₁.setTop (mkF m 0 #[.val (.long p0), .second, .val (.long p1), .second, .val (.long p2), .second, .val (.long p3), .second, .val (.int p4), .unset, .unset, .unset, .unset, .unset, .unset, .unset, .unset, .unset, .unset, .unset, .unset, .unset, .unset, .unset, .unset, .unset, .unset, .unset, .unset, .unset, .unset, .unset] [])) t → Steps p.tables e below (s₁.setTop (entryFrame m args maxLocals)) t := fun t k => castTop (by rw [hargs]; exact own_ef_rm0 m p0 p1 p2 p3 p4) k
  clear Bd
  obtain ⟨c9, st331⟩ : ∃ (c9 : Int32), ∀ target, Steps p.tables e below (s₁.setTop (mkF m 12 #[.val (.long p0), .second, .val (.long p1), .second, .val (.long p2), .second, .val (.long p3), .second, .val (.int p4), .unset, .unset, .unset, .unset, .unset, .unset, .unset, .unset, .unset, .unset, .unset, .unset, .unset, .unset, .unset, .unset, .unset, .unset, .unset, .unset, .unset, .unset, .unset] [(.int c9)])) target → Steps p.tables e below (s₁.setTop (mkF m 0 #[.val (.long p0), .second, .val (.long p1), .second, .val (.long p2), .second, .val (.long p3), .second, .val (.int p4), .unset, .unset, .unset, .unset, .unset, .unset, .unset, .unset, .unset, .unset, .unset, .unset, .unset, .unset, .unset, .unset, .unset, .unset, .unset, .unset, .unset, .unset, .unset] [])) target := by
    by_cases hc : (p4 &&& (1 : Int32)) = (0 : Int32)
    · skip
      refine ⟨0, fun target hk => ?_⟩
      show Steps p.tables e below (s₁.setTop (mkF m 0 #[.val (.long p0), .second, .val (.long p1), .second, .val (.long p2), .second, .val (.long p3), .second, .val (.int p4), .unset, .unset, .unset, .unset, .unset, .unset, .unset, .unset, .unset, .unset, .unset, .unset, .unset, .unset, .unset, .unset, .unset, .unset, .unset, .unset, .unset, .unset, .unset] [])) _
      refine XS.iload X0.here hx rfl (hb hby at_0) rfl ?_
      show Steps p.tables e below (s₁.setTop (mkF m 2 #[.val (.long p0), .second, .val (.long p1), .second, .val (.long p2), .second, .val (.long p3), .second, .val (.int p4), .unset, .unset, .unset, .unset, .unset, .unset, .unset, .unset, .unset, .unset, .unset, .unset, .unset, .unset, .unset, .unset, .unset, .unset, .unset, .unset, .unset, .unset, .unset] [(.int p4)])) _
      refine XS.iconst X0.here hx rfl (hb hby at_2) ?_
      show Steps p.tables e below (s₁.setTop (mkF m 3 #[.val (.long p0), .second, .val (.long p1), .second, .val (.long p2), .second, .val (.long p3), .second, .val (.int p4), .unset, .unset, .unset, .unset, .unset, .unset, .unset, .unset, .unset, .unset, .unset, .unset, .unset, .unset, .unset, .unset, .unset, .unset, .unset, .unset, .unset, .unset, .unset] [(.int (1 : Int32)), (.int p4)])) _
      refine XS.iand X0.here hx rfl (hb hby at_3) rfl ?_
      show Steps p.tables e below (s₁.setTop (mkF m 4 #[.val (.long p0), .second, .val (.long p1), .second, .val (.long p2), .second, .val (.long p3), .second, .val (.int p4), .unset, .unset, .unset, .unset, .unset, .unset, .unset, .unset, .unset, .unset, .unset, .unset, .unset, .unset, .unset, .unset, .unset, .unset, .unset, .unset, .unset, .unset, .unset] [(.int (p4 &&& (1 : Int32)))])) _
      refine XS.ifYes X0.here hx rfl (pc0 := 4) (pc' := 11) rfl (hb hby at_4) rfl ((if0 _ _).trans (teq hc).1) (by decide) (by decide) ?_
      show Steps p.tables e below (s₁.setTop (mkF m 11 #[.val (.long p0), .second, .val (.long p1), .second, .val (.long p2), .second, .val (.long p3), .second, .val (.int p4), .unset, .unset, .unset, .unset, .unset, .unset, .unset, .unset, .unset, .unset, .unset, .unset, .unset, .unset, .unset, .unset, .unset, .unset, .unset, .unset, .unset, .unset, .unset] [])) _
      refine XS.iconst X0.here hx rfl (hb hby at_11) ?_
      exact hk
    · skip
      refine ⟨1, fun target hk => ?_⟩
      show Steps p.tables e below (s₁.setTop (mkF m 0 #[.val (.long p0), .second, .val (.long p1), .second, .val (.long p2), .second, .val (.long p3), .second, .val (.int p4), .unset, .unset, .unset, .unset, .unset, .unset, .unset, .unset, .unset, .unset, .unset, .unset, .unset, .unset, .unset, .unset, .unset, .unset, .unset, .unset, .unset, .unset, .unset] [])) _
      refine XS.iload X0.here hx rfl (hb hby at_0) rfl ?_
      show Steps p.tables e below (s₁.setTop (mkF m 2 #[.val (.long p0), .second, .val (.long p1), .second, .val (.long p2), .second, .val (.long p3), .second, .val (.int p4), .unset, .unset, .unset, .unset, .unset, .unset, .unset, .unset, .unset, .unset, .unset, .unset, .unset, .unset, .unset, .unset, .unset, .unset, .unset, .unset, .unset, .unset, .unset] [(.int p4)])) _
      refine XS.iconst X0.here hx rfl (hb hby at_2) ?_
      show Steps p.tables e below (s₁.setTop (mkF m 3 #[.val (.long p0), .second, .val (.long p1), .second, .val (.long p2), .second, .val (.long p3), .second, .val (.int p4), .unset, .unset, .unset, .unset, .unset, .unset, .unset, .unset, .unset, .unset, .unset, .unset, .unset, .unset, .unset, .unset, .unset, .unset, .unset, .unset, .unset, .unset, .unset] [(.int (1 : Int32)), (.int p4)])) _
      refine XS.iand X0.here hx rfl (hb hby at_3) rfl ?_
      show Steps p.tables e below (s₁.setTop (mkF m 4 #[.val (.long p0), .second, .val (.long p1), .second, .val (.long p2), .second, .val (.long p3), .second, .val (.int p4), .unset, .unset, .unset, .unset, .unset, .unset, .unset, .unset, .unset, .unset, .unset, .unset, .unset, .unset, .unset, .unset, .unset, .unset, .unset, .unset, .unset, .unset, .unset] [(.int (p4 &&& (1 : Int32)))])) _
      refine XS.ifNo X0.here hx rfl (hb hby at_4) rfl ((if0 _ _).trans (feq hc).1) ?_
      show Steps p.tables e below (s₁.setTop (mkF m 7 #[.val (.long p0), .second, .val (.long p1), .second, .val (.long p2), .second, .val (.long p3), .second, .val (.int p4), .unset, .unset, .unset, .unset, .unset, .unset, .unset, .unset, .unset, .unset, .unset, .unset, .unset, .unset, .unset, .unset, .unset, .unset, .unset, .unset, .unset, .unset, .unset] [])) _
      refine XS.iconst X0.here hx rfl (hb hby at_7) ?_
      show Steps p.tables e below (s₁.setTop (mkF m 8 #[.val (.long p0), .second, .val (.long p1), .second, .val (.long p2), .second, .val (.long p3), .second, .val (.int p4), .unset, .unset, .unset, .unset, .unset, .unset, .unset, .unset, .unset, .unset, .unset, .unset, .unset, .unset, .unset, .unset, .unset, .unset, .unset, .unset, .unset, .unset, .unset] [(.int (1 : Int32))])) _
      refine XS.goto X0.here hx rfl (pc0 := 8) (pc' := 12) rfl (hb hby at_8) (by decide) (by decide) ?_
      exact hk
  obtain ⟨c10, st332⟩ : ∃ (c10 : Int32), ∀ target, Steps p.tables e below (s₁.setTop (mkF m 26 #[.val (.long p0), .second, .val (.long p1), .second, .val (.long p2), .second, .val (.long p3), .second, .val (.int p4), .val (.int c9), .unset, .unset, .unset, .unset, .unset, .unset, .unset, .unset, .unset, .unset, .unset, .unset, .unset, .unset, .unset, .unset, .unset, .unset, .unset, .unset, .unset, .unset] [(.int c10)])) target → Steps p.tables e below (s₁.setTop (mkF m 14 #[.val (.long p0), .second, .val (.long p1), .second, .val (.long p2), .second, .val (.long p3), .second, .val (.int p4), .val (.int c9), .unset, .unset, .unset, .unset, .unset, .unset, .unset, .unset, .unset, .unset, .unset, .unset, .unset, .unset, .unset, .unset, .unset, .unset, .unset, .unset, .unset, .unset] [])) target := by
    by_cases hc : (p4 &&& (2 : Int32)) = (0 : Int32)
    · skip
      refine ⟨0, fun target hk => ?_⟩
      show Steps p.tables e below (s₁.setTop (mkF m 14 #[.val (.long p0), .second, .val (.long p1), .second, .val (.long p2), .second, .val (.long p3), .second, .val (.int p4), .val (.int c9), .unset, .unset, .unset, .unset, .unset, .unset, .unset, .unset, .unset, .unset, .unset, .unset, .unset, .unset, .unset, .unset, .unset, .unset, .unset, .unset, .unset, .unset] [])) _
      refine XS.iload X0.here hx rfl (hb hby at_14) rfl ?_
      show Steps p.tables e below (s₁.setTop (mkF m 16 #[.val (.long p0), .second, .val (.long p1), .second, .val (.long p2), .second, .val (.long p3), .second, .val (.int p4), .val (.int c9), .unset, .unset, .unset, .unset, .unset, .unset, .unset, .unset, .unset, .unset, .unset, .unset, .unset, .unset, .unset, .unset, .unset, .unset, .unset, .unset, .unset, .unset] [(.int p4)])) _
      refine XS.iconst X0.here hx rfl (hb hby at_16) ?_
      show Steps p.tables e below (s₁.setTop (mkF m 17 #[.val (.long p0), .second, .val (.long p1), .second, .val (.long p2), .second, .val (.long p3), .second, .val (.int p4), .val (.int c9), .unset, .unset, .unset, .unset, .unset, .unset, .unset, .unset, .unset, .unset, .unset, .unset, .unset, .unset, .unset, .unset, .unset, .unset, .unset, .unset, .unset, .unset] [(.int (2 : Int32)), (.int p4)])) _
      refine XS.iand X0.here hx rfl (hb hby at_17) rfl ?_
      show Steps p.tables e below (s₁.setTop (mkF m 18 #[.val (.long p0), .second, .val (.long p1), .second, .val (.long p2), .second, .val (.long p3), .second, .val (.int p4), .val (.int c9), .unset, .unset, .unset, .unset, .unset, .unset, .unset, .unset, .unset, .unset, .unset, .unset, .unset, .unset, .unset, .unset, .unset, .unset, .unset, .unset, .unset, .unset] [(.int (p4 &&& (2 : Int32)))])) _
      refine XS.ifYes X0.here hx rfl (pc0 := 18) (pc' := 25) rfl (hb hby at_18) rfl ((if0 _ _).trans (teq hc).1) (by decide) (by decide) ?_
      show Steps p.tables e below (s₁.setTop (mkF m 25 #[.val (.long p0), .second, .val (.long p1), .second, .val (.long p2), .second, .val (.long p3), .second, .val (.int p4), .val (.int c9), .unset, .unset, .unset, .unset, .unset, .unset, .unset, .unset, .unset, .unset, .unset, .unset, .unset, .unset, .unset, .unset, .unset, .unset, .unset, .unset, .unset, .unset] [])) _
      refine XS.iconst X0.here hx rfl (hb hby at_25) ?_
      exact hk
    · skip
      refine ⟨1, fun target hk => ?_⟩
      show Steps p.tables e below (s₁.setTop (mkF m 14 #[.val (.long p0), .second, .val (.long p1), .second, .val (.long p2), .second, .val (.long p3), .second, .val (.int p4), .val (.int c9), .unset, .unset, .unset, .unset, .unset, .unset, .unset, .unset, .unset, .unset, .unset, .unset, .unset, .unset, .unset, .unset, .unset, .unset, .unset, .unset, .unset, .unset] [])) _
      refine XS.iload X0.here hx rfl (hb hby at_14) rfl ?_
      show Steps p.tables e below (s₁.setTop (mkF m 16 #[.val (.long p0), .second, .val (.long p1), .second, .val (.long p2), .second, .val (.long p3), .second, .val (.int p4), .val (.int c9), .unset, .unset, .unset, .unset, .unset, .unset, .unset, .unset, .unset, .unset, .unset, .unset, .unset, .unset, .unset, .unset, .unset, .unset, .unset, .unset, .unset, .unset] [(.int p4)])) _
      refine XS.iconst X0.here hx rfl (hb hby at_16) ?_
      show Steps p.tables e below (s₁.setTop (mkF m 17 #[.val (.long p0), .second, .val (.long p1), .second, .val (.long p2), .second, .val (.long p3), .second, .val (.int p4), .val (.int c9), .unset, .unset, .unset, .unset, .unset, .unset, .unset, .unset, .unset, .unset, .unset, .unset, .unset, .unset, .unset, .unset, .unset, .unset, .unset, .unset, .unset, .unset] [(.int (2 : Int32)), (.int p4)])) _
      refine XS.iand X0.here hx rfl (hb hby at_17) rfl ?_
      show Steps p.tables e below (s₁.setTop (mkF m 18 #[.val (.long p0), .second, .val (.long p1), .second, .val (.long p2), .second, .val (.long p3), .second, .val (.int p4), .val (.int c9), .unset, .unset, .unset, .unset, .unset, .unset, .unset, .unset, .unset, .unset, .unset, .unset, .unset, .unset, .unset, .unset, .unset, .unset, .unset, .unset, .unset, .unset] [(.int (p4 &&& (2 : Int32)))])) _
      refine XS.ifNo X0.here hx rfl (hb hby at_18) rfl ((if0 _ _).trans (feq hc).1) ?_
      show Steps p.tables e below (s₁.setTop (mkF m 21 #[.val (.long p0), .second, .val (.long p1), .second, .val (.long p2), .second, .val (.long p3), .second, .val (.int p4), .val (.int c9), .unset, .unset, .unset, .unset, .unset, .unset, .unset, .unset, .unset, .unset, .unset, .unset, .unset, .unset, .unset, .unset, .unset, .unset, .unset, .unset, .unset, .unset] [])) _
      refine XS.iconst X0.here hx rfl (hb hby at_21) ?_
      show Steps p.tables e below (s₁.setTop (mkF m 22 #[.val (.long p0), .second, .val (.long p1), .second, .val (.long p2), .second, .val (.long p3), .second, .val (.int p4), .val (.int c9), .unset, .unset, .unset, .unset, .unset, .unset, .unset, .unset, .unset, .unset, .unset, .unset, .unset, .unset, .unset, .unset, .unset, .unset, .unset, .unset, .unset, .unset] [(.int (1 : Int32))])) _
      refine XS.goto X0.here hx rfl (pc0 := 22) (pc' := 26) rfl (hb hby at_22) (by decide) (by decide) ?_
      exact hk
  obtain ⟨c11, st333⟩ : ∃ (c11 : Int32), ∀ target, Steps p.tables e below (s₁.setTop (mkF m 40 #[.val (.long p0), .second, .val (.long p1), .second, .val (.long p2), .second, .val (.long p3), .second, .val (.int p4), .val (.int c9), .val (.int c10), .unset, .unset, .unset, .unset, .unset, .unset, .unset, .unset, .unset, .unset, .unset, .unset, .unset, .unset, .unset, .unset, .unset, .unset, .unset, .unset, .unset] [(.int c11)])) target → Steps p.tables e below (s₁.setTop (mkF m 28 #[.val (.long p0), .second, .val (.long p1), .second, .val (.long p2), .second, .val (.long p3), .second, .val (.int p4), .val (.int c9), .val (.int c10), .unset, .unset, .unset, .unset, .unset, .unset, .unset, .unset, .unset, .unset, .unset, .unset, .unset, .unset, .unset, .unset, .unset, .unset, .unset, .unset, .unset] [])) target := by
    by_cases hc : (p4 &&& (4 : Int32)) = (0 : Int32)
    · skip
      refine ⟨0, fun target hk => ?_⟩
      show Steps p.tables e below (s₁.setTop (mkF m 28 #[.val (.long p0), .second, .val (.long p1), .second, .val (.long p2), .second, .val (.long p3), .second, .val (.int p4), .val (.int c9), .val (.int c10), .unset, .unset, .unset, .unset, .unset, .unset, .unset, .unset, .unset, .unset, .unset, .unset, .unset, .unset, .unset, .unset, .unset, .unset, .unset, .unset, .unset] [])) _
      refine XS.iload X0.here hx rfl (hb hby at_28) rfl ?_
      show Steps p.tables e below (s₁.setTop (mkF m 30 #[.val (.long p0), .second, .val (.long p1), .second, .val (.long p2), .second, .val (.long p3), .second, .val (.int p4), .val (.int c9), .val (.int c10), .unset, .unset, .unset, .unset, .unset, .unset, .unset, .unset, .unset, .unset, .unset, .unset, .unset, .unset, .unset, .unset, .unset, .unset, .unset, .unset, .unset] [(.int p4)])) _
      refine XS.iconst X0.here hx rfl (hb hby at_30) ?_
      show Steps p.tables e below (s₁.setTop (mkF m 31 #[.val (.long p0), .second, .val (.long p1), .second, .val (.long p2), .second, .val (.long p3), .second, .val (.int p4), .val (.int c9), .val (.int c10), .unset, .unset, .unset, .unset, .unset, .unset, .unset, .unset, .unset, .unset, .unset, .unset, .unset, .unset, .unset, .unset, .unset, .unset, .unset, .unset, .unset] [(.int (4 : Int32)), (.int p4)])) _
      refine XS.iand X0.here hx rfl (hb hby at_31) rfl ?_
      show Steps p.tables e below (s₁.setTop (mkF m 32 #[.val (.long p0), .second, .val (.long p1), .second, .val (.long p2), .second, .val (.long p3), .second, .val (.int p4), .val (.int c9), .val (.int c10), .unset, .unset, .unset, .unset, .unset, .unset, .unset, .unset, .unset, .unset, .unset, .unset, .unset, .unset, .unset, .unset, .unset, .unset, .unset, .unset, .unset] [(.int (p4 &&& (4 : Int32)))])) _
      refine XS.ifYes X0.here hx rfl (pc0 := 32) (pc' := 39) rfl (hb hby at_32) rfl ((if0 _ _).trans (teq hc).1) (by decide) (by decide) ?_
      show Steps p.tables e below (s₁.setTop (mkF m 39 #[.val (.long p0), .second, .val (.long p1), .second, .val (.long p2), .second, .val (.long p3), .second, .val (.int p4), .val (.int c9), .val (.int c10), .unset, .unset, .unset, .unset, .unset, .unset, .unset, .unset, .unset, .unset, .unset, .unset, .unset, .unset, .unset, .unset, .unset, .unset, .unset, .unset, .unset] [])) _
      refine XS.iconst X0.here hx rfl (hb hby at_39) ?_
      exact hk
    · skip
      refine ⟨1, fun target hk => ?_⟩
      show Steps p.tables e below (s₁.setTop (mkF m 28 #[.val (.long p0), .second, .val (.long p1), .second, .val (.long p2), .second, .val (.long p3), .second, .val (.int p4), .val (.int c9), .val (.int c10), .unset, .unset, .unset, .unset, .unset, .unset, .unset, .unset, .unset, .unset, .unset, .unset, .unset, .unset, .unset, .unset, .unset, .unset, .unset, .unset, .unset] [])) _
      refine XS.iload X0.here hx rfl (hb hby at_28) rfl ?_
      show Steps p.tables e below (s₁.setTop (mkF m 30 #[.val (.long p0), .second, .val (.long p1), .second, .val (.long p2), .second, .val (.long p3), .second, .val (.int p4), .val (.int c9), .val (.int c10), .unset, .unset, .unset, .unset, .unset, .unset, .unset, .unset, .unset, .unset, .unset, .unset, .unset, .unset, .unset, .unset, .unset, .unset, .unset, .unset, .unset] [(.int p4)])) _
      refine XS.iconst X0.here hx rfl (hb hby at_30) ?_
      show Steps p.tables e below (s₁.setTop (mkF m 31 #[.val (.long p0), .second, .val (.long p1), .second, .val (.long p2), .second, .val (.long p3), .second, .val (.int p4), .val (.int c9), .val (.int c10), .unset, .unset, .unset, .unset, .unset, .unset, .unset, .unset, .unset, .unset, .unset, .unset, .unset, .unset, .unset, .unset, .unset, .unset, .unset, .unset, .unset] [(.int (4 : Int32)), (.int p4)])) _
      refine XS.iand X0.here hx rfl (hb hby at_31) rfl ?_
      show Steps p.tables e below (s₁.setTop (mkF m 32 #[.val (.long p0), .second, .val (.long p1), .second, .val (.long p2), .second, .val (.long p3), .second, .val (.int p4), .val (.int c9), .val (.int c10), .unset, .unset, .unset, .unset, .unset, .unset, .unset, .unset, .unset, .unset, .unset, .unset, .unset, .unset, .unset, .unset, .unset, .unset, .unset, .unset, .unset] [(.int (p4 &&& (4 : Int32)))])) _
      refine XS.ifNo X0.here hx rfl (hb hby at_32) rfl ((if0 _ _).trans (feq hc).1) ?_
      show Steps p.tables e below (s₁.setTop (mkF m 35 #[.val (.long p0), .second, .val (.long p1), .second, .val (.long p2), .second, .val (.long p3), .second, .val (.int p4), .val (.int c9), .val (.int c10), .unset, .unset, .unset, .unset, .unset, .unset, .unset, .unset, .unset, .unset, .unset, .unset, .unset, .unset, .unset, .unset, .unset, .unset, .unset, .unset, .unset] [])) _
      refine XS.iconst X0.here hx rfl (hb hby at_35) ?_
      show Steps p.tables e below (s₁.setTop (mkF m 36 #[.val (.long p0), .second, .val (.long p1), .second, .val (.long p2), .second, .val (.long p3), .second, .val (.int p4), .val (.int c9), .val (.int c10), .unset, .unset, .unset, .unset, .unset, .unset, .unset, .unset, .unset, .unset, .unset, .unset, .unset, .unset, .unset, .unset, .unset, .unset, .unset, .unset, .unset] [(.int (1 : Int32))])) _
      refine XS.goto X0.here hx rfl (pc0 := 36) (pc' := 40) rfl (hb hby at_36) (by decide) (by decide) ?_
      exact hk
  by_cases hc11 : c11 = (0 : Int32)
  · skip
    obtain ⟨T334, h334, lc334, b12, xh, xb, kh, kb, X334, e334, E334, N334, HH, st334⟩ : ∃ (T334 : State) (h334 : Heap) (lc334 : List Loc) (b12 : Addr) (xh : Addr) (xb : Addr) (kh : ClassId) (kb : ClassId), Stand p l e room_1 s m args below meth c T334 lc334 3 2052 ∧ T334.heap = h334 ∧ Ext h0 h334 ∧ Fr n0 lc334 ∧ (own_Hist Z h334 b12 xh xb kh kb p0 0 p1 0 1 (if c9 = (0 : Int32) then (0 : Int64) else 0 + 1)) ∧ ∀ target, Steps p.tables e below (T334.setTop (mkF m 76 #[.val (.long p0), .second, .val (.long p1), .second, .val (.long p2), .second, .val (.long p3), .second, .val (.int p4), .val (.int c9), .val (.int c10), .val (.int c11), .val (.ref b12), .unset, .unset, .unset, .unset, .unset, .unset, .unset, .unset, .unset, .unset, .unset, .unset, .unset, .unset, .unset, .unset, .unset, .unset, .unset] [])) target → Steps p.tables e below (s₁.setTop (mkF m 42 #[.val (.long p0), .second, .val (.long p1), .second, .val (.long p2), .second, .val (.long p3), .second, .val (.int p4), .val (.int c9), .val (.int c10), .val (.int c11), .unset, .unset, .unset, .unset, .unset, .unset, .unset, .unset, .unset, .unset, .unset, .unset, .unset, .unset, .unset, .unset, .unset, .unset, .unset, .unset] [])) target := by
      obtain ⟨T335, h335, X335, e335, E335, A335, D335, -, st335⟩ := newO X0 hx hZ hown (hw _ (List.mem_of_getElem? (i := 0) rfl)) (hw _ (List.mem_of_getElem? (i := 1) rfl)) (hw _ (List.mem_of_getElem? (i := 2) rfl)) e0 (g := (mkF m 42 #[.val (.long p0), .second, .val (.long p1), .second, .val (.long p2), .second, .val (.long p3), .second, .val (.int p4), .val (.int c9), .val (.int c10), .val (.int c11), .unset, .unset, .unset, .unset, .unset, .unset, .unset, .unset, .unset, .unset, .unset, .unset, .unset, .unset, .unset, .unset, .unset, .unset, .unset, .unset] [])) rfl (hb hby at_42) (by decide) (by decide)
      obtain ⟨b335, g335⟩ : ∃ z, z = h0.size := ⟨_, rfl⟩
      rw [← g335] at A335 D335 st335
      have ge_b335 : n0 ≤ b335 := Nat.le_trans Z0 (Nat.le_of_eq g335.symm)
      have sz_b335 : h0.size ≤ b335 := Nat.le_trans (Keep.refl h0 []).1 (Nat.le_of_eq g335.symm)
      have Z336 : n0 ≤ h335.size := Nat.le_trans Z0 E335.1
      have K337 : Keep h0 h335 [] := (Keep.refl h0 []).ext E335
      obtain ⟨v338, vmx338, ⟨T338, L338, k338, n338⟩, -, X338, ⟨Lc338, hQ338, l338, y338, z338⟩, st338⟩ := X335.specialBack hx (y := (⟨"com/example/nosy_pool/nosypool/CheckoutHistory", "<init>", "()V"⟩ : MethodName)) rfl hown (mvT hZ (hw _ (List.mem_of_getElem? (i := 3) rfl))) (mvT hZ (hw _ (List.mem_of_getElem? (i := 4) rfl))) (mvT hZ (hw _ (List.mem_of_getElem? (i := 5) rfl))) (by decide) (backOf (W := 1) (rmI1 l Z a0 hw [] b335 _ _ _ _ h335 n0 Z336 ge_b335 ⟨A335, (D335 (Or.inr (hw _ (List.mem_of_getElem? (i := 14) rfl))) (ty := (.array .long)) (by decide)), (D335 (Or.inr (hw _ (List.mem_of_getElem? (i := 16) rfl))) (ty := (.array .long)) (by decide)), (D335 (Or.inl (hw _ (List.mem_of_getElem? (i := 18) rfl))) (ty := .long) (by decide)), (D335 (Or.inl (hw _ (List.mem_of_getElem? (i := 20) rfl))) (ty := .long) (by decide))⟩) hZ (hw _ (List.mem_of_getElem? (i := 5) rfl)) (hw _ (List.mem_of_getElem? (i := 2) rfl)) (by decide) (by decide)) (g := (mkF m 46 #[.val (.long p0), .second, .val (.long p1), .second, .val (.long p2), .second, .val (.long p3), .second, .val (.int p4), .val (.int c9), .val (.int c10), .val (.int c11), .unset, .unset, .unset, .unset, .unset, .unset, .unset, .unset, .unset, .unset, .unset, .unset, .unset, .unset, .unset, .unset, .unset, .unset, .unset, .unset] [(.ref b335), (.ref b335)])) rfl (by rw [hml]; rfl) (Steps.refl _) (a := b335) (argsL := []) (rest := [(.ref b335)]) (lenOf own_pd6 rfl) rfl (by show 2 * 0 + _ ≤ _; exact Nat.le_of_eq rfl) (hb hby at_46) (fun _ _ => ⟨rfl, e335, (by decide : 1 + 2 ≤ _), (by decide : 4 + 2048 ≤ _)⟩)
      dsimp only [Pt.U, Pt.locs, Pt.cells, Pt.slots] at X338 l338 y338 z338 st338 hQ338
      subst l338 y338 z338
      obtain ⟨rfl, Nq338, K338, xh, xb, kh, kb, s1, s2, HH338⟩ := hQ338
      have N338 := Fr.app N0 Nq338
      have sz_xh : h0.size ≤ xh := Nat.le_trans K337.1 s1
      have sz_xb : h0.size ≤ xb := Nat.le_trans K337.1 s2
      have ge_xh : n0 ≤ xh := Nat.le_trans Z336 s1
      have ge_xb : n0 ≤ xb := Nat.le_trans Z336 s2
      have Z339 : n0 ≤ T338.heap.size := Nat.le_trans Z336 K338.1
      have K340 : Keep h0 T338.heap [] := K337.trans K338 (allS (Or.inr sz_b335) all0)
      obtain ⟨cq341, kq341, q341a, q341b, q341c⟩ := isOf hZ rfl HH338.1.1
      obtain ⟨v341, vmx341, ⟨T341, L341, k341, n341⟩, -, X341, ⟨Lc341, hQ341, l341, y341, z341⟩, st341⟩ := X338.virtualBack hx (y := (⟨"com/example/nosy_pool/nosypool/CheckoutHistory", "record", "(JJZ)V"⟩ : MethodName)) (z := (⟨"com/example/nosy_pool/nosypool/CheckoutHistory", "record", "(JJZ)V"⟩ : MethodName)) hown (mvT hZ (hw _ (List.mem_of_getElem? (i := 21) rfl))) (mvT hZ (hw _ (List.mem_of_getElem? (i := 22) rfl))) (notFace_of_selects (args := #[]) (mvT hZ (hw _ (List.mem_of_getElem? (i := 24) rfl)))) (mvT hZ (hw _ (List.mem_of_getElem? (i := 24) rfl))) (mvT hZ (hw _ (List.mem_of_getElem? (i := 23) rfl))) (by decide) (backOf (W := 0) (rmRec0 l Z a0 hw [] b335 xh xb kh kb 0 0 0 0 0 p0 p1 c9 T338.heap n0 Z339 ge_b335 ge_xh ge_xb HH338) hZ (hw _ (List.mem_of_getElem? (i := 25) rfl)) (hw _ (List.mem_of_getElem? (i := 2) rfl)) (by decide) (by decide)) q341a q341c (g := (mkF m 57 #[.val (.long p0), .second, .val (.long p1), .second, .val (.long p2), .second, .val (.long p3), .second, .val (.int p4), .val (.int c9), .val (.int c10), .val (.int c11), .val (.ref b335), .unset, .unset, .unset, .unset, .unset, .unset, .unset, .unset, .unset, .unset, .unset, .unset, .unset, .unset, .unset, .unset, .unset, .unset, .unset] [(.int c9), (.long p1), (.long p0), (.ref b335)])) rfl (by rw [hml]; rfl) (Steps.refl _) (argsL := [(.long p0), (.long p1), (.int c9)]) (rest := []) (lenOf own_pd12 rfl) rfl (by show 2 * 0 + _ ≤ _; exact Nat.le_of_eq rfl) (hb hby at_57) (fun _ _ => ⟨rfl, rfl, (by decide : 3 + 0 ≤ _), (by decide : 2052 + 0 ≤ _)⟩)
      dsimp only [Pt.U, Pt.locs, Pt.cells, Pt.slots] at X341 l341 y341 z341 st341 hQ341
      subst l341 y341 z341
      obtain ⟨rfl, Nq341, K341, HH341⟩ := hQ341
      have N341 := Fr.app N338 Nq341
      have Z342 : n0 ≤ T341.heap.size := Nat.le_trans Z339 K341.1
      have K343 : Keep h0 T341.heap [] := K340.trans K341 (allS (Or.inr sz_b335) (allS (Or.inr sz_xh) (allS (Or.inr sz_xb) all0)))
      refine ⟨T341, _, _, b335, xh, xb, kh, kb, own_up X341 (by decide) (by decide), rfl, own_ext K343, N341, HH341, fun target hk => ?_⟩
      show Steps p.tables e below (s₁.setTop (mkF m 42 #[.val (.long p0), .second, .val (.long p1), .second, .val (.long p2), .second, .val (.long p3), .second, .val (.int p4), .val (.int c9), .val (.int c10), .val (.int c11), .unset, .unset, .unset, .unset, .unset, .unset, .unset, .unset, .unset, .unset, .unset, .unset, .unset, .unset, .unset, .unset, .unset, .unset, .unset, .unset] [])) _
      refine st335 _ ?_
      show Steps p.tables e below (T335.setTop (mkF m 45 #[.val (.long p0), .second, .val (.long p1), .second, .val (.long p2), .second, .val (.long p3), .second, .val (.int p4), .val (.int c9), .val (.int c10), .val (.int c11), .unset, .unset, .unset, .unset, .unset, .unset, .unset, .unset, .unset, .unset, .unset, .unset, .unset, .unset, .unset, .unset, .unset, .unset, .unset, .unset] [(.ref b335)])) _
      refine XS.dup X335.here hx rfl (hb hby at_45) rfl rfl ?_
      show Steps p.tables e below (T335.setTop (mkF m 46 #[.val (.long p0), .second, .val (.long p1), .second, .val (.long p2), .second, .val (.long p3), .second, .val (.int p4), .val (.int c9), .val (.int c10), .val (.int c11), .unset, .unset, .unset, .unset, .unset, .unset, .unset, .unset, .unset, .unset, .unset, .unset, .unset, .unset, .unset, .unset, .unset, .unset, .unset, .unset] [(.ref b335), (.ref b335)])) _
      refine st338.trans ?_
      show Steps p.tables e below (T338.setTop (mkF m 49 #[.val (.long p0), .second, .val (.long p1), .second, .val (.long p2), .second, .val (.long p3), .second, .val (.int p4), .val (.int c9), .val (.int c10), .val (.int c11), .unset, .unset, .unset, .unset, .unset, .unset, .unset, .unset, .unset, .unset, .unset, .unset, .unset, .unset, .unset, .unset, .unset, .unset, .unset, .unset] [(.ref b335)])) _
      refine XS.astore X338.here hx rfl (hb hby at_49) rfl rfl (l' := #[.val (.long p0), .second, .val (.long p1), .second, .val (.long p2), .second, .val (.long p3), .second, .val (.int p4), .val (.int c9), .val (.int c10), .val (.int c11), .val (.ref b335), .unset, .unset, .unset, .unset, .unset, .unset, .unset, .unset, .unset, .unset, .unset, .unset, .unset, .unset, .unset, .unset, .unset, .unset, .unset]) rfl ?_
      show Steps p.tables e below (T338.setTop (mkF m 51 #[.val (.long p0), .second, .val (.long p1), .second, .val (.long p2), .second, .val (.long p3), .second, .val (.int p4), .val (.int c9), .val (.int c10), .val (.int c11), .val (.ref b335), .unset, .unset, .unset, .unset, .unset, .unset, .unset, .unset, .unset, .unset, .unset, .unset, .unset, .unset, .unset, .unset, .unset, .unset, .unset] [])) _
      refine XS.aload X338.here hx rfl (hb hby at_51) rfl rfl ?_
      show Steps p.tables e below (T338.setTop (mkF m 53 #[.val (.long p0), .second, .val (.long p1), .second, .val (.long p2), .second, .val (.long p3), .second, .val (.int p4), .val (.int c9), .val (.int c10), .val (.int c11), .val (.ref b335), .unset, .unset, .unset, .unset, .unset, .unset, .unset, .unset, .unset, .unset, .unset, .unset, .unset, .unset, .unset, .unset, .unset, .unset, .unset] [(.ref b335)])) _
      refine XS.lloadN X338.here hx rfl (hb hby at_53) rfl ?_
      show Steps p.tables e below (T338.setTop (mkF m 54 #[.val (.long p0), .second, .val (.long p1), .second, .val (.long p2), .second, .val (.long p3), .second, .val (.int p4), .val (.int c9), .val (.int c10), .val (.int c11), .val (.ref b335), .unset, .unset, .unset, .unset, .unset, .unset, .unset, .unset, .unset, .unset, .unset, .unset, .unset, .unset, .unset, .unset, .unset, .unset, .unset] [(.long p0), (.ref b335)])) _
      refine XS.lloadN X338.here hx rfl (hb hby at_54) rfl ?_
      show Steps p.tables e below (T338.setTop (mkF m 55 #[.val (.long p0), .second, .val (.long p1), .second, .val (.long p2), .second, .val (.long p3), .second, .val (.int p4), .val (.int c9), .val (.int c10), .val (.int c11), .val (.ref b335), .unset, .unset, .unset, .unset, .unset, .unset, .unset, .unset, .unset, .unset, .unset, .unset, .unset, .unset, .unset, .unset, .unset, .unset, .unset] [(.long p1), (.long p0), (.ref b335)])) _
      refine XS.iload X338.here hx rfl (hb hby at_55) rfl ?_
      show Steps p.tables e below (T338.setTop (mkF m 57 #[.val (.long p0), .second, .val (.long p1), .second, .val (.long p2), .second, .val (.long p3), .second, .val (.int p4), .val (.int c9), .val (.int c10), .val (.int c11), .val (.ref b335), .unset, .unset, .unset, .unset, .unset, .unset, .unset, .unset, .unset, .unset, .unset, .unset, .unset, .unset, .unset, .unset, .unset, .unset, .unset] [(.int c9), (.long p1), (.long p0), (.ref b335)])) _
      refine st341.trans ?_
      show Steps p.tables e below (T341.setTop (mkF m 60 #[.val (.long p0), .second, .val (.long p1), .second, .val (.long p2), .second, .val (.long p3), .second, .val (.int p4), .val (.int c9), .val (.int c10), .val (.int c11), .val (.ref b335), .unset, .unset, .unset, .unset, .unset, .unset, .unset, .unset, .unset, .unset, .unset, .unset, .unset, .unset, .unset, .unset, .unset, .unset, .unset] [])) _
      refine XS.iload X341.here hx rfl (hb hby at_60) rfl ?_
      show Steps p.tables e below (T341.setTop (mkF m 62 #[.val (.long p0), .second, .val (.long p1), .second, .val (.long p2), .second, .val (.long p3), .second, .val (.int p4), .val (.int c9), .val (.int c10), .val (.int c11), .val (.ref b335), .unset, .unset, .unset, .unset, .unset, .unset, .unset, .unset, .unset, .unset, .unset, .unset, .unset, .unset, .unset, .unset, .unset, .unset, .unset] [(.int c11)])) _
      refine XS.ifYes X341.here hx rfl (pc0 := 62) (pc' := 76) rfl (hb hby at_62) rfl ((if0 _ _).trans (teq hc11).1) (by decide) (by decide) ?_
      exact hk
    have Z344 : n0 ≤ h334.size := Nat.le_trans Z0 E334.1
    have K345 : Keep h0 h334 [] := (Keep.refl h0 []).ext E334
    have f346 := (X00.ext E334)
    obtain ⟨cq347, kq347, q347a, q347b, q347c⟩ := isOf hZ e334 HH.1.1
    obtain ⟨v347, vmx347, ⟨T347, L347, k347, n347⟩, -, X347, ⟨Lc347, hQ347, l347, y347, z347⟩, st347⟩ := X334.virtualBack hx (y := (⟨"com/example/nosy_pool/nosypool/CheckoutHistory", "statistics", "()Lcom/example/nosy_pool/nosypool/CheckoutStatistics;"⟩ : MethodName)) (z := (⟨"com/example/nosy_pool/nosypool/CheckoutHistory", "statistics", "()Lcom/example/nosy_pool/nosypool/CheckoutStatistics;"⟩ : MethodName)) hown (mvT hZ (hw _ (List.mem_of_getElem? (i := 27) rfl))) (mvT hZ (hw _ (List.mem_of_getElem? (i := 28) rfl))) (notFace_of_selects (args := #[]) (mvT hZ (hw _ (List.mem_of_getElem? (i := 30) rfl)))) (mvT hZ (hw _ (List.mem_of_getElem? (i := 30) rfl))) (mvT hZ (hw _ (List.mem_of_getElem? (i := 29) rfl))) (by decide) (backOf (W := 0) (rmSt1 l Z a0 hw [] b12 xh xb kh kb p0 0 p1 0 (if c9 = (0 : Int32) then (0 : Int64) else 0 + 1) tu h334 n0 Z344 HH O6 ET FT1 FT2 f346) hZ (hw _ (List.mem_of_getElem? (i := 31) rfl)) (hw _ (List.mem_of_getElem? (i := 2) rfl)) (by decide) (by decide)) q347a q347c (g := (mkF m 78 #[.val (.long p0), .second, .val (.long p1), .second, .val (.long p2), .second, .val (.long p3), .second, .val (.int p4), .val (.int c9), .val (.int c10), .val (.int c11), .val (.ref b12), .unset, .unset, .unset, .unset, .unset, .unset, .unset, .unset, .unset, .unset, .unset, .unset, .unset, .unset, .unset, .unset, .unset, .unset, .unset] [(.ref b12)])) rfl (by rw [hml]; rfl) (Steps.refl _) (argsL := []) (rest := []) (lenOf own_pd13 rfl) rfl (by show 2 * 0 + _ ≤ _; exact Nat.le_of_eq rfl) (hb hby at_78) (fun _ _ => ⟨rfl, e334, (by decide : 3 + 3 ≤ _), (by decide : 2052 + 9 ≤ _)⟩)
    dsimp only [Pt.U, Pt.locs, Pt.cells, Pt.slots] at X347 l347 y347 z347 st347 hQ347
    subst l347 y347 z347
    obtain ⟨b13, rfl, Nq347, E347, F13⟩ := hQ347
    have N347 := Fr.app N334 Nq347
    have Z348 : n0 ≤ T347.heap.size := Nat.le_trans Z344 E347.1
    have K349 : Keep h0 T347.heap [] := K345.ext E347
    have st350 : ∀ target, Steps p.tables e below (T347.setTop (mkF m 125 #[.val (.long p0), .second, .val (.long p1), .second, .val (.long p2), .second, .val (.long p3), .second, .val (.int p4), .val (.int c9), .val (.int c10), .val (.int c11), .val (.ref b12), .val (.ref b13), .val (.long (1 : Int64)), .second, .val (.long (if c9 = (0 : Int32) then (0 : Int64) else 0 + 1)), .second, .unset, .unset, .unset, .unset, .unset, .unset, .unset, .unset, .unset, .unset, .unset, .unset, .unset, .unset] [])) target → Steps p.tables e below (T347.setTop (mkF m 97 #[.val (.long p0), .second, .val (.long p1), .second, .val (.long p2), .second, .val (.long p3), .second, .val (.int p4), .val (.int c9), .val (.int c10), .val (.int c11), .val (.ref b12), .val (.ref b13), .val (.long (1 : Int64)), .second, .unset, .unset, .unset, .unset, .unset, .unset, .unset, .unset, .unset, .unset, .unset, .unset, .unset, .unset, .unset, .unset] [])) target := by
      by_cases q9 : c9 = (0 : Int32)
      · skip
        have er : (if c9 = (0 : Int32) then (0 : Int64) else 0 + 1) = ((0 : Int64) + (0 : Int64)) := by rw [if_pos q9] <;> decide
        rw [er]
        intro target hk
        show Steps p.tables e below (T347.setTop (mkF m 97 #[.val (.long p0), .second, .val (.long p1), .second, .val (.long p2), .second, .val (.long p3), .second, .val (.int p4), .val (.int c9), .val (.int c10), .val (.int c11), .val (.ref b12), .val (.ref b13), .val (.long (1 : Int64)), .second, .unset, .unset, .unset, .unset, .unset, .unset, .unset, .unset, .unset, .unset, .unset, .unset, .unset, .unset, .unset, .unset] [])) _
        refine XS.iload X347.here hx rfl (hb hby at_97) rfl ?_
        show Steps p.tables e below (T347.setTop (mkF m 99 #[.val (.long p0), .second, .val (.long p1), .second, .val (.long p2), .second, .val (.long p3), .second, .val (.int p4), .val (.int c9), .val (.int c10), .val (.int c11), .val (.ref b12), .val (.ref b13), .val (.long (1 : Int64)), .second, .unset, .unset, .unset, .unset, .unset, .unset, .unset, .unset, .unset, .unset, .unset, .unset, .unset, .unset, .unset, .unset] [(.int c9)])) _
        refine XS.ifYes X347.here hx rfl (pc0 := 99) (pc' := 106) rfl (hb hby at_99) rfl ((if0 _ _).trans (teq q9).1) (by decide) (by decide) ?_
        show Steps p.tables e below (T347.setTop (mkF m 106 #[.val (.long p0), .second, .val (.long p1), .second, .val (.long p2), .second, .val (.long p3), .second, .val (.int p4), .val (.int c9), .val (.int c10), .val (.int c11), .val (.ref b12), .val (.ref b13), .val (.long (1 : Int64)), .second, .unset, .unset, .unset, .unset, .unset, .unset, .unset, .unset, .unset, .unset, .unset, .unset, .unset, .unset, .unset, .unset] [])) _
        refine XS.lconst X347.here hx rfl (hb hby at_106) ?_
        show Steps p.tables e below (T347.setTop (mkF m 107 #[.val (.long p0), .second, .val (.long p1), .second, .val (.long p2), .second, .val (.long p3), .second, .val (.int p4), .val (.int c9), .val (.int c10), .val (.int c11), .val (.ref b12), .val (.ref b13), .val (.long (1 : Int64)), .second, .unset, .unset, .unset, .unset, .unset, .unset, .unset, .unset, .unset, .unset, .unset, .unset, .unset, .unset, .unset, .unset] [(.long (0 : Int64))])) _
        refine XS.iload X347.here hx rfl (hb hby at_107) rfl ?_
        show Steps p.tables e below (T347.setTop (mkF m 109 #[.val (.long p0), .second, .val (.long p1), .second, .val (.long p2), .second, .val (.long p3), .second, .val (.int p4), .val (.int c9), .val (.int c10), .val (.int c11), .val (.ref b12), .val (.ref b13), .val (.long (1 : Int64)), .second, .unset, .unset, .unset, .unset, .unset, .unset, .unset, .unset, .unset, .unset, .unset, .unset, .unset, .unset, .unset, .unset] [(.int c11), (.long (0 : Int64))])) _
        refine XS.ifYes X347.here hx rfl (pc0 := 109) (pc' := 121) rfl (hb hby at_109) rfl ((if0 _ _).trans (teq hc11).1) (by decide) (by decide) ?_
        show Steps p.tables e below (T347.setTop (mkF m 121 #[.val (.long p0), .second, .val (.long p1), .second, .val (.long p2), .second, .val (.long p3), .second, .val (.int p4), .val (.int c9), .val (.int c10), .val (.int c11), .val (.ref b12), .val (.ref b13), .val (.long (1 : Int64)), .second, .unset, .unset, .unset, .unset, .unset, .unset, .unset, .unset, .unset, .unset, .unset, .unset, .unset, .unset, .unset, .unset] [(.long (0 : Int64))])) _
        refine XS.lconst X347.here hx rfl (hb hby at_121) ?_
        show Steps p.tables e below (T347.setTop (mkF m 122 #[.val (.long p0), .second, .val (.long p1), .second, .val (.long p2), .second, .val (.long p3), .second, .val (.int p4), .val (.int c9), .val (.int c10), .val (.int c11), .val (.ref b12), .val (.ref b13), .val (.long (1 : Int64)), .second, .unset, .unset, .unset, .unset, .unset, .unset, .unset, .unset, .unset, .unset, .unset, .unset, .unset, .unset, .unset, .unset] [(.long (0 : Int64)), (.long (0 : Int64))])) _
        refine XS.ladd X347.here hx rfl (hb hby at_122) rfl ?_
        show Steps p.tables e below (T347.setTop (mkF m 123 #[.val (.long p0), .second, .val (.long p1), .second, .val (.long p2), .second, .val (.long p3), .second, .val (.int p4), .val (.int c9), .val (.int c10), .val (.int c11), .val (.ref b12), .val (.ref b13), .val (.long (1 : Int64)), .second, .unset, .unset, .unset, .unset, .unset, .unset, .unset, .unset, .unset, .unset, .unset, .unset, .unset, .unset, .unset, .unset] [(.long ((0 : Int64) + (0 : Int64)))])) _
        refine XS.lstore X347.here hx rfl (hb hby at_123) rfl (l' := #[.val (.long p0), .second, .val (.long p1), .second, .val (.long p2), .second, .val (.long p3), .second, .val (.int p4), .val (.int c9), .val (.int c10), .val (.int c11), .val (.ref b12), .val (.ref b13), .val (.long (1 : Int64)), .second, .val (.long ((0 : Int64) + (0 : Int64))), .second, .unset, .unset, .unset, .unset, .unset, .unset, .unset, .unset, .unset, .unset, .unset, .unset, .unset, .unset]) rfl ?_
        exact hk
      · skip
        have er : (if c9 = (0 : Int32) then (0 : Int64) else 0 + 1) = ((1 : Int64) + (0 : Int64)) := by rw [if_neg q9] <;> decide
        rw [er]
        intro target hk
        show Steps p.tables e below (T347.setTop (mkF m 97 #[.val (.long p0), .second, .val (.long p1), .second, .val (.long p2), .second, .val (.long p3), .second, .val (.int p4), .val (.int c9), .val (.int c10), .val (.int c11), .val (.ref b12), .val (.ref b13), .val (.long (1 : Int64)), .second, .unset, .unset, .unset, .unset, .unset, .unset, .unset, .unset, .unset, .unset, .unset, .unset, .unset, .unset, .unset, .unset] [])) _
        refine XS.iload X347.here hx rfl (hb hby at_97) rfl ?_
        show Steps p.tables e below (T347.setTop (mkF m 99 #[.val (.long p0), .second, .val (.long p1), .second, .val (.long p2), .second, .val (.long p3), .second, .val (.int p4), .val (.int c9), .val (.int c10), .val (.int c11), .val (.ref b12), .val (.ref b13), .val (.long (1 : Int64)), .second, .unset, .unset, .unset, .unset, .unset, .unset, .unset, .unset, .unset, .unset, .unset, .unset, .unset, .unset, .unset, .unset] [(.int c9)])) _
        refine XS.ifNo X347.here hx rfl (hb hby at_99) rfl ((if0 _ _).trans (feq q9).1) ?_
        show Steps p.tables e below (T347.setTop (mkF m 102 #[.val (.long p0), .second, .val (.long p1), .second, .val (.long p2), .second, .val (.long p3), .second, .val (.int p4), .val (.int c9), .val (.int c10), .val (.int c11), .val (.ref b12), .val (.ref b13), .val (.long (1 : Int64)), .second, .unset, .unset, .unset, .unset, .unset, .unset, .unset, .unset, .unset, .unset, .unset, .unset, .unset, .unset, .unset, .unset] [])) _
        refine XS.lconst X347.here hx rfl (hb hby at_102) ?_
        show Steps p.tables e below (T347.setTop (mkF m 103 #[.val (.long p0), .second, .val (.long p1), .second, .val (.long p2), .second, .val (.long p3), .second, .val (.int p4), .val (.int c9), .val (.int c10), .val (.int c11), .val (.ref b12), .val (.ref b13), .val (.long (1 : Int64)), .second, .unset, .unset, .unset, .unset, .unset, .unset, .unset, .unset, .unset, .unset, .unset, .unset, .unset, .unset, .unset, .unset] [(.long (1 : Int64))])) _
        refine XS.goto X347.here hx rfl (pc0 := 103) (pc' := 107) rfl (hb hby at_103) (by decide) (by decide) ?_
        show Steps p.tables e below (T347.setTop (mkF m 107 #[.val (.long p0), .second, .val (.long p1), .second, .val (.long p2), .second, .val (.long p3), .second, .val (.int p4), .val (.int c9), .val (.int c10), .val (.int c11), .val (.ref b12), .val (.ref b13), .val (.long (1 : Int64)), .second, .unset, .unset, .unset, .unset, .unset, .unset, .unset, .unset, .unset, .unset, .unset, .unset, .unset, .unset, .unset, .unset] [(.long (1 : Int64))])) _
        refine XS.iload X347.here hx rfl (hb hby at_107) rfl ?_
        show Steps p.tables e below (T347.setTop (mkF m 109 #[.val (.long p0), .second, .val (.long p1), .second, .val (.long p2), .second, .val (.long p3), .second, .val (.int p4), .val (.int c9), .val (.int c10), .val (.int c11), .val (.ref b12), .val (.ref b13), .val (.long (1 : Int64)), .second, .unset, .unset, .unset, .unset, .unset, .unset, .unset, .unset, .unset, .unset, .unset, .unset, .unset, .unset, .unset, .unset] [(.int c11), (.long (1 : Int64))])) _
        refine XS.ifYes X347.here hx rfl (pc0 := 109) (pc' := 121) rfl (hb hby at_109) rfl ((if0 _ _).trans (teq hc11).1) (by decide) (by decide) ?_
        show Steps p.tables e below (T347.setTop (mkF m 121 #[.val (.long p0), .second, .val (.long p1), .second, .val (.long p2), .second, .val (.long p3), .second, .val (.int p4), .val (.int c9), .val (.int c10), .val (.int c11), .val (.ref b12), .val (.ref b13), .val (.long (1 : Int64)), .second, .unset, .unset, .unset, .unset, .unset, .unset, .unset, .unset, .unset, .unset, .unset, .unset, .unset, .unset, .unset, .unset] [(.long (1 : Int64))])) _
        refine XS.lconst X347.here hx rfl (hb hby at_121) ?_
        show Steps p.tables e below (T347.setTop (mkF m 122 #[.val (.long p0), .second, .val (.long p1), .second, .val (.long p2), .second, .val (.long p3), .second, .val (.int p4), .val (.int c9), .val (.int c10), .val (.int c11), .val (.ref b12), .val (.ref b13), .val (.long (1 : Int64)), .second, .unset, .unset, .unset, .unset, .unset, .unset, .unset, .unset, .unset, .unset, .unset, .unset, .unset, .unset, .unset, .unset] [(.long (0 : Int64)), (.long (1 : Int64))])) _
        refine XS.ladd X347.here hx rfl (hb hby at_122) rfl ?_
        show Steps p.tables e below (T347.setTop (mkF m 123 #[.val (.long p0), .second, .val (.long p1), .second, .val (.long p2), .second, .val (.long p3), .second, .val (.int p4), .val (.int c9), .val (.int c10), .val (.int c11), .val (.ref b12), .val (.ref b13), .val (.long (1 : Int64)), .second, .unset, .unset, .unset, .unset, .unset, .unset, .unset, .unset, .unset, .unset, .unset, .unset, .unset, .unset, .unset, .unset] [(.long ((1 : Int64) + (0 : Int64)))])) _
        refine XS.lstore X347.here hx rfl (hb hby at_123) rfl (l' := #[.val (.long p0), .second, .val (.long p1), .second, .val (.long p2), .second, .val (.long p3), .second, .val (.int p4), .val (.int c9), .val (.int c10), .val (.int c11), .val (.ref b12), .val (.ref b13), .val (.long (1 : Int64)), .second, .val (.long ((1 : Int64) + (0 : Int64))), .second, .unset, .unset, .unset, .unset, .unset, .unset, .unset, .unset, .unset, .unset, .unset, .unset, .unset, .unset]) rfl ?_
        exact hk
    have st351 : ∀ target, Steps p.tables e below (T347.setTop (mkF m 214 #[.val (.long p0), .second, .val (.long p1), .second, .val (.long p2), .second, .val (.long p3), .second, .val (.int p4), .val (.int c9), .val (.int c10), .val (.int c11), .val (.ref b12), .val (.ref b13), .val (.long (1 : Int64)), .second, .val (.long (if c9 = (0 : Int32) then (0 : Int64) else 0 + 1)), .second, .val (.long p0), .second, .val (.long p0), .second, .val (.long p1), .second, .val (.long p1), .second, .val (.long p0), .second, .val (.long p1), .second, .val (.double (own_ratio p0 p1)), .second] [])) target → Steps p.tables e below (T347.setTop (mkF m 195 #[.val (.long p0), .second, .val (.long p1), .second, .val (.long p2), .second, .val (.long p3), .second, .val (.int p4), .val (.int c9), .val (.int c10), .val (.int c11), .val (.ref b12), .val (.ref b13), .val (.long (1 : Int64)), .second, .val (.long (if c9 = (0 : Int32) then (0 : Int64) else 0 + 1)), .second, .val (.long p0), .second, .val (.long p0), .second, .val (.long p1), .second, .val (.long p1), .second, .val (.long p0), .second, .val (.long p1), .second, .unset, .unset] [])) target := by
      by_cases hc : (0 : Int64) < p0
      · skip
        rw [show own_ratio p0 p1 = FP.ddiv (FP.l2d p1) (FP.l2d p0) from if_pos hc]
        intro target hk
        show Steps p.tables e below (T347.setTop (mkF m 195 #[.val (.long p0), .second, .val (.long p1), .second, .val (.long p2), .second, .val (.long p3), .second, .val (.int p4), .val (.int c9), .val (.int c10), .val (.int c11), .val (.ref b12), .val (.ref b13), .val (.long (1 : Int64)), .second, .val (.long (if c9 = (0 : Int32) then (0 : Int64) else 0 + 1)), .second, .val (.long p0), .second, .val (.long p0), .second, .val (.long p1), .second, .val (.long p1), .second, .val (.long p0), .second, .val (.long p1), .second, .unset, .unset] [])) _
        refine XS.dconst0 X347.here hx rfl (v := 0) (hb hby at_195) (by decide +kernel) ?_
        show Steps p.tables e below (T347.setTop (mkF m 196 #[.val (.long p0), .second, .val (.long p1), .second, .val (.long p2), .second, .val (.long p3), .second, .val (.int p4), .val (.int c9), .val (.int c10), .val (.int c11), .val (.ref b12), .val (.ref b13), .val (.long (1 : Int64)), .second, .val (.long (if c9 = (0 : Int32) then (0 : Int64) else 0 + 1)), .second, .val (.long p0), .second, .val (.long p0), .second, .val (.long p1), .second, .val (.long p1), .second, .val (.long p0), .second, .val (.long p1), .second, .unset, .unset] [(.double (0 : UInt64))])) _
        refine XS.dstore X347.here hx rfl (hb hby at_196) rfl (l' := #[.val (.long p0), .second, .val (.long p1), .second, .val (.long p2), .second, .val (.long p3), .second, .val (.int p4), .val (.int c9), .val (.int c10), .val (.int c11), .val (.ref b12), .val (.ref b13), .val (.long (1 : Int64)), .second, .val (.long (if c9 = (0 : Int32) then (0 : Int64) else 0 + 1)), .second, .val (.long p0), .second, .val (.long p0), .second, .val (.long p1), .second, .val (.long p1), .second, .val (.long p0), .second, .val (.long p1), .second, .val (.double (0 : UInt64)), .second]) rfl ?_
        show Steps p.tables e below (T347.setTop (mkF m 198 #[.val (.long p0), .second, .val (.long p1), .second, .val (.long p2), .second, .val (.long p3), .second, .val (.int p4), .val (.int c9), .val (.int c10), .val (.int c11), .val (.ref b12), .val (.ref b13), .val (.long (1 : Int64)), .second, .val (.long (if c9 = (0 : Int32) then (0 : Int64) else 0 + 1)), .second, .val (.long p0), .second, .val (.long p0), .second, .val (.long p1), .second, .val (.long p1), .second, .val (.long p0), .second, .val (.long p1), .second, .val (.double (0 : UInt64)), .second] [])) _
        refine XS.lload X347.here hx rfl (hb hby at_198) rfl ?_
        show Steps p.tables e below (T347.setTop (mkF m 200 #[.val (.long p0), .second, .val (.long p1), .second, .val (.long p2), .second, .val (.long p3), .second, .val (.int p4), .val (.int c9), .val (.int c10), .val (.int c11), .val (.ref b12), .val (.ref b13), .val (.long (1 : Int64)), .second, .val (.long (if c9 = (0 : Int32) then (0 : Int64) else 0 + 1)), .second, .val (.long p0), .second, .val (.long p0), .second, .val (.long p1), .second, .val (.long p1), .second, .val (.long p0), .second, .val (.long p1), .second, .val (.double (0 : UInt64)), .second] [(.long p0)])) _
        refine XS.lconst X347.here hx rfl (hb hby at_200) ?_
        show Steps p.tables e below (T347.setTop (mkF m 201 #[.val (.long p0), .second, .val (.long p1), .second, .val (.long p2), .second, .val (.long p3), .second, .val (.int p4), .val (.int c9), .val (.int c10), .val (.int c11), .val (.ref b12), .val (.ref b13), .val (.long (1 : Int64)), .second, .val (.long (if c9 = (0 : Int32) then (0 : Int64) else 0 + 1)), .second, .val (.long p0), .second, .val (.long p0), .second, .val (.long p1), .second, .val (.long p1), .second, .val (.long p0), .second, .val (.long p1), .second, .val (.double (0 : UInt64)), .second] [(.long (0 : Int64)), (.long p0)])) _
        refine XS.lcmp X347.here hx rfl (hb hby at_201) rfl ?_
        show Steps p.tables e below (T347.setTop (mkF m 202 #[.val (.long p0), .second, .val (.long p1), .second, .val (.long p2), .second, .val (.long p3), .second, .val (.int p4), .val (.int c9), .val (.int c10), .val (.int c11), .val (.ref b12), .val (.ref b13), .val (.long (1 : Int64)), .second, .val (.long (if c9 = (0 : Int32) then (0 : Int64) else 0 + 1)), .second, .val (.long p0), .second, .val (.long p0), .second, .val (.long p1), .second, .val (.long p1), .second, .val (.long p0), .second, .val (.long p1), .second, .val (.double (0 : UInt64)), .second] [(.int (lcmpW p0 (0 : Int64)))])) _
        refine XS.ifNo X347.here hx rfl (hb hby at_202) rfl ((if0 _ _).trans (tlt ((lw_gt _ _).mpr hc)).2.2.2) ?_
        show Steps p.tables e below (T347.setTop (mkF m 205 #[.val (.long p0), .second, .val (.long p1), .second, .val (.long p2), .second, .val (.long p3), .second, .val (.int p4), .val (.int c9), .val (.int c10), .val (.int c11), .val (.ref b12), .val (.ref b13), .val (.long (1 : Int64)), .second, .val (.long (if c9 = (0 : Int32) then (0 : Int64) else 0 + 1)), .second, .val (.long p0), .second, .val (.long p0), .second, .val (.long p1), .second, .val (.long p1), .second, .val (.long p0), .second, .val (.long p1), .second, .val (.double (0 : UInt64)), .second] [])) _
        refine XS.lload X347.here hx rfl (hb hby at_205) rfl ?_
        show Steps p.tables e below (T347.setTop (mkF m 207 #[.val (.long p0), .second, .val (.long p1), .second, .val (.long p2), .second, .val (.long p3), .second, .val (.int p4), .val (.int c9), .val (.int c10), .val (.int c11), .val (.ref b12), .val (.ref b13), .val (.long (1 : Int64)), .second, .val (.long (if c9 = (0 : Int32) then (0 : Int64) else 0 + 1)), .second, .val (.long p0), .second, .val (.long p0), .second, .val (.long p1), .second, .val (.long p1), .second, .val (.long p0), .second, .val (.long p1), .second, .val (.double (0 : UInt64)), .second] [(.long p1)])) _
        refine XS.l2dS X347.here hx rfl (hb hby at_207) rfl rfl ?_
        show Steps p.tables e below (T347.setTop (mkF m 208 #[.val (.long p0), .second, .val (.long p1), .second, .val (.long p2), .second, .val (.long p3), .second, .val (.int p4), .val (.int c9), .val (.int c10), .val (.int c11), .val (.ref b12), .val (.ref b13), .val (.long (1 : Int64)), .second, .val (.long (if c9 = (0 : Int32) then (0 : Int64) else 0 + 1)), .second, .val (.long p0), .second, .val (.long p0), .second, .val (.long p1), .second, .val (.long p1), .second, .val (.long p0), .second, .val (.long p1), .second, .val (.double (0 : UInt64)), .second] [(.double (FP.l2d p1))])) _
        refine XS.lload X347.here hx rfl (hb hby at_208) rfl ?_
        show Steps p.tables e below (T347.setTop (mkF m 210 #[.val (.long p0), .second, .val (.long p1), .second, .val (.long p2), .second, .val (.long p3), .second, .val (.int p4), .val (.int c9), .val (.int c10), .val (.int c11), .val (.ref b12), .val (.ref b13), .val (.long (1 : Int64)), .second, .val (.long (if c9 = (0 : Int32) then (0 : Int64) else 0 + 1)), .second, .val (.long p0), .second, .val (.long p0), .second, .val (.long p1), .second, .val (.long p1), .second, .val (.long p0), .second, .val (.long p1), .second, .val (.double (0 : UInt64)), .second] [(.long p0), (.double (FP.l2d p1))])) _
        refine XS.l2dS X347.here hx rfl (hb hby at_210) rfl rfl ?_
        show Steps p.tables e below (T347.setTop (mkF m 211 #[.val (.long p0), .second, .val (.long p1), .second, .val (.long p2), .second, .val (.long p3), .second, .val (.int p4), .val (.int c9), .val (.int c10), .val (.int c11), .val (.ref b12), .val (.ref b13), .val (.long (1 : Int64)), .second, .val (.long (if c9 = (0 : Int32) then (0 : Int64) else 0 + 1)), .second, .val (.long p0), .second, .val (.long p0), .second, .val (.long p1), .second, .val (.long p1), .second, .val (.long p0), .second, .val (.long p1), .second, .val (.double (0 : UInt64)), .second] [(.double (FP.l2d p0)), (.double (FP.l2d p1))])) _
        refine XS.ddivS X347.here hx rfl (hb hby at_211) rfl (own_nnan hc) rfl ?_
        show Steps p.tables e below (T347.setTop (mkF m 212 #[.val (.long p0), .second, .val (.long p1), .second, .val (.long p2), .second, .val (.long p3), .second, .val (.int p4), .val (.int c9), .val (.int c10), .val (.int c11), .val (.ref b12), .val (.ref b13), .val (.long (1 : Int64)), .second, .val (.long (if c9 = (0 : Int32) then (0 : Int64) else 0 + 1)), .second, .val (.long p0), .second, .val (.long p0), .second, .val (.long p1), .second, .val (.long p1), .second, .val (.long p0), .second, .val (.long p1), .second, .val (.double (0 : UInt64)), .second] [(.double (FP.ddiv (FP.l2d p1) (FP.l2d p0)))])) _
        refine XS.dstore X347.here hx rfl (hb hby at_212) rfl (l' := #[.val (.long p0), .second, .val (.long p1), .second, .val (.long p2), .second, .val (.long p3), .second, .val (.int p4), .val (.int c9), .val (.int c10), .val (.int c11), .val (.ref b12), .val (.ref b13), .val (.long (1 : Int64)), .second, .val (.long (if c9 = (0 : Int32) then (0 : Int64) else 0 + 1)), .second, .val (.long p0), .second, .val (.long p0), .second, .val (.long p1), .second, .val (.long p1), .second, .val (.long p0), .second, .val (.long p1), .second, .val (.double (FP.ddiv (FP.l2d p1) (FP.l2d p0))), .second]) rfl ?_
        exact hk
      · skip
        rw [show own_ratio p0 p1 = 0 from if_neg hc]
        intro target hk
        show Steps p.tables e below (T347.setTop (mkF m 195 #[.val (.long p0), .second, .val (.long p1), .second, .val (.long p2), .second, .val (.long p3), .second, .val (.int p4), .val (.int c9), .val (.int c10), .val (.int c11), .val (.ref b12), .val (.ref b13), .val (.long (1 : Int64)), .second, .val (.long (if c9 = (0 : Int32) then (0 : Int64) else 0 + 1)), .second, .val (.long p0), .second, .val (.long p0), .second, .val (.long p1), .second, .val (.long p1), .second, .val (.long p0), .second, .val (.long p1), .second, .unset, .unset] [])) _
        refine XS.dconst0 X347.here hx rfl (v := 0) (hb hby at_195) (by decide +kernel) ?_
        show Steps p.tables e below (T347.setTop (mkF m 196 #[.val (.long p0), .second, .val (.long p1), .second, .val (.long p2), .second, .val (.long p3), .second, .val (.int p4), .val (.int c9), .val (.int c10), .val (.int c11), .val (.ref b12), .val (.ref b13), .val (.long (1 : Int64)), .second, .val (.long (if c9 = (0 : Int32) then (0 : Int64) else 0 + 1)), .second, .val (.long p0), .second, .val (.long p0), .second, .val (.long p1), .second, .val (.long p1), .second, .val (.long p0), .second, .val (.long p1), .second, .unset, .unset] [(.double (0 : UInt64))])) _
        refine XS.dstore X347.here hx rfl (hb hby at_196) rfl (l' := #[.val (.long p0), .second, .val (.long p1), .second, .val (.long p2), .second, .val (.long p3), .second, .val (.int p4), .val (.int c9), .val (.int c10), .val (.int c11), .val (.ref b12), .val (.ref b13), .val (.long (1 : Int64)), .second, .val (.long (if c9 = (0 : Int32) then (0 : Int64) else 0 + 1)), .second, .val (.long p0), .second, .val (.long p0), .second, .val (.long p1), .second, .val (.long p1), .second, .val (.long p0), .second, .val (.long p1), .second, .val (.double (0 : UInt64)), .second]) rfl ?_
        show Steps p.tables e below (T347.setTop (mkF m 198 #[.val (.long p0), .second, .val (.long p1), .second, .val (.long p2), .second, .val (.long p3), .second, .val (.int p4), .val (.int c9), .val (.int c10), .val (.int c11), .val (.ref b12), .val (.ref b13), .val (.long (1 : Int64)), .second, .val (.long (if c9 = (0 : Int32) then (0 : Int64) else 0 + 1)), .second, .val (.long p0), .second, .val (.long p0), .second, .val (.long p1), .second, .val (.long p1), .second, .val (.long p0), .second, .val (.long p1), .second, .val (.double (0 : UInt64)), .second] [])) _
        refine XS.lload X347.here hx rfl (hb hby at_198) rfl ?_
        show Steps p.tables e below (T347.setTop (mkF m 200 #[.val (.long p0), .second, .val (.long p1), .second, .val (.long p2), .second, .val (.long p3), .second, .val (.int p4), .val (.int c9), .val (.int c10), .val (.int c11), .val (.ref b12), .val (.ref b13), .val (.long (1 : Int64)), .second, .val (.long (if c9 = (0 : Int32) then (0 : Int64) else 0 + 1)), .second, .val (.long p0), .second, .val (.long p0), .second, .val (.long p1), .second, .val (.long p1), .second, .val (.long p0), .second, .val (.long p1), .second, .val (.double (0 : UInt64)), .second] [(.long p0)])) _
        refine XS.lconst X347.here hx rfl (hb hby at_200) ?_
        show Steps p.tables e below (T347.setTop (mkF m 201 #[.val (.long p0), .second, .val (.long p1), .second, .val (.long p2), .second, .val (.long p3), .second, .val (.int p4), .val (.int c9), .val (.int c10), .val (.int c11), .val (.ref b12), .val (.ref b13), .val (.long (1 : Int64)), .second, .val (.long (if c9 = (0 : Int32) then (0 : Int64) else 0 + 1)), .second, .val (.long p0), .second, .val (.long p0), .second, .val (.long p1), .second, .val (.long p1), .second, .val (.long p0), .second, .val (.long p1), .second, .val (.double (0 : UInt64)), .second] [(.long (0 : Int64)), (.long p0)])) _
        refine XS.lcmp X347.here hx rfl (hb hby at_201) rfl ?_
        show Steps p.tables e below (T347.setTop (mkF m 202 #[.val (.long p0), .second, .val (.long p1), .second, .val (.long p2), .second, .val (.long p3), .second, .val (.int p4), .val (.int c9), .val (.int c10), .val (.int c11), .val (.ref b12), .val (.ref b13), .val (.long (1 : Int64)), .second, .val (.long (if c9 = (0 : Int32) then (0 : Int64) else 0 + 1)), .second, .val (.long p0), .second, .val (.long p0), .second, .val (.long p1), .second, .val (.long p1), .second, .val (.long p0), .second, .val (.long p1), .second, .val (.double (0 : UInt64)), .second] [(.int (lcmpW p0 (0 : Int64)))])) _
        refine XS.ifYes X347.here hx rfl (pc0 := 202) (pc' := 214) rfl (hb hby at_202) rfl ((if0 _ _).trans (flt (mt (lw_gt _ _).mp hc)).2.2.2) (by decide) (by decide) ?_
        exact hk
    obtain ⟨zE, zF0, zF1, zF2, zF3, zF4, zF5, zF6⟩ := id F13
    obtain ⟨cq352, kq352, q352a, q352b, q352c⟩ := isOf hZ rfl zE
    obtain ⟨v352, vmx352, ⟨T352, L352, k352, n352⟩, -, X352, ⟨Lc352, hQ352, l352, y352, z352⟩, st352⟩ := X347.virtualBack hx (y := (⟨"com/example/nosy_pool/nosypool/CheckoutStatistics", "count", "()J"⟩ : MethodName)) (z := (⟨"com/example/nosy_pool/nosypool/CheckoutStatistics", "count", "()J"⟩ : MethodName)) hown (mvT hZ (hw _ (List.mem_of_getElem? (i := 101) rfl))) (mvT hZ (hw _ (List.mem_of_getElem? (i := 102) rfl))) (notFace_of_selects (args := #[]) (mvT hZ (hw _ (List.mem_of_getElem? (i := 104) rfl)))) (mvT hZ (hw _ (List.mem_of_getElem? (i := 104) rfl))) (mvT hZ (hw _ (List.mem_of_getElem? (i := 103) rfl))) (by decide) (backOf (W := 0) (rmG_count l Z a0 hw [] b13 (1 : Int64) T347.heap n0 Z348 zF0) hZ (hw _ (List.mem_of_getElem? (i := 105) rfl)) (hw _ (List.mem_of_getElem? (i := 62) rfl)) (by decide) (by decide)) q352a q352c (g := (mkF m 216 #[.val (.long p0), .second, .val (.long p1), .second, .val (.long p2), .second, .val (.long p3), .second, .val (.int p4), .val (.int c9), .val (.int c10), .val (.int c11), .val (.ref b12), .val (.ref b13), .val (.long (1 : Int64)), .second, .val (.long (if c9 = (0 : Int32) then (0 : Int64) else 0 + 1)), .second, .val (.long p0), .second, .val (.long p0), .second, .val (.long p1), .second, .val (.long p1), .second, .val (.long p0), .second, .val (.long p1), .second, .val (.double (own_ratio p0 p1)), .second] [(.ref b13)])) rfl (by rw [hml]; rfl) (Steps.refl _) (argsL := []) (rest := []) (lenOf own_pd14 rfl) rfl (by show 2 * 0 + _ ≤ _; exact Nat.le_of_eq rfl) (hb hby at_216) (fun _ _ => ⟨rfl, rfl, (by decide : 6 + 0 ≤ _), (by decide : 2061 + 0 ≤ _)⟩)
    dsimp only [Pt.U, Pt.locs, Pt.cells, Pt.slots] at X352 l352 y352 z352 st352 hQ352
    subst l352 y352 z352
    obtain ⟨rfl, Nq352, eh352⟩ := hQ352
    have N352 := Fr.app N347 Nq352
    obtain ⟨cq353, kq353, q353a, q353b, q353c⟩ := isOf hZ eh352 zE
    obtain ⟨v353, vmx353, ⟨T353, L353, k353, n353⟩, -, X353, ⟨Lc353, hQ353, l353, y353, z353⟩, st353⟩ := X352.virtualBack hx (y := (⟨"com/example/nosy_pool/nosypool/CheckoutStatistics", "rolledBack", "()J"⟩ : MethodName)) (z := (⟨"com/example/nosy_pool/nosypool/CheckoutStatistics", "rolledBack", "()J"⟩ : MethodName)) hown (mvT hZ (hw _ (List.mem_of_getElem? (i := 106) rfl))) (mvT hZ (hw _ (List.mem_of_getElem? (i := 107) rfl))) (notFace_of_selects (args := #[]) (mvT hZ (hw _ (List.mem_of_getElem? (i := 109) rfl)))) (mvT hZ (hw _ (List.mem_of_getElem? (i := 109) rfl))) (mvT hZ (hw _ (List.mem_of_getElem? (i := 108) rfl))) (by decide) (backOf (W := 0) (rmG_rolledBack l Z a0 hw [] b13 (if c9 = (0 : Int32) then (0 : Int64) else 0 + 1) T347.heap n0 Z348 zF1) hZ (hw _ (List.mem_of_getElem? (i := 110) rfl)) (hw _ (List.mem_of_getElem? (i := 62) rfl)) (by decide) (by decide)) q353a q353c (g := (mkF m 227 #[.val (.long p0), .second, .val (.long p1), .second, .val (.long p2), .second, .val (.long p3), .second, .val (.int p4), .val (.int c9), .val (.int c10), .val (.int c11), .val (.ref b12), .val (.ref b13), .val (.long (1 : Int64)), .second, .val (.long (if c9 = (0 : Int32) then (0 : Int64) else 0 + 1)), .second, .val (.long p0), .second, .val (.long p0), .second, .val (.long p1), .second, .val (.long p1), .second, .val (.long p0), .second, .val (.long p1), .second, .val (.double (own_ratio p0 p1)), .second] [(.ref b13)])) rfl (by rw [hml]; rfl) (Steps.refl _) (argsL := []) (rest := []) (lenOf own_pd14 rfl) rfl (by show 2 * 0 + _ ≤ _; exact Nat.le_of_eq rfl) (hb hby at_227) (fun _ _ => ⟨rfl, eh352, (by decide : 6 + 0 ≤ _), (by decide : 2061 + 0 ≤ _)⟩)
    dsimp only [Pt.U, Pt.locs, Pt.cells, Pt.slots] at X353 l353 y353 z353 st353 hQ353
    subst l353 y353 z353
    obtain ⟨rfl, Nq353, eh353⟩ := hQ353
    have N353 := Fr.app N352 Nq353
    obtain ⟨cq354, kq354, q354a, q354b, q354c⟩ := isOf hZ eh353 zE
    obtain ⟨v354, vmx354, ⟨T354, L354, k354, n354⟩, -, X354, ⟨Lc354, hQ354, l354, y354, z354⟩, st354⟩ := X353.virtualBack hx (y := (⟨"com/example/nosy_pool/nosypool/CheckoutStatistics", "holdP50Ms", "()J"⟩ : MethodName)) (z := (⟨"com/example/nosy_pool/nosypool/CheckoutStatistics", "holdP50Ms", "()J"⟩ : MethodName)) hown (mvT hZ (hw _ (List.mem_of_getElem? (i := 111) rfl))) (mvT hZ (hw _ (List.mem_of_getElem? (i := 112) rfl))) (notFace_of_selects (args := #[]) (mvT hZ (hw _ (List.mem_of_getElem? (i := 114) rfl)))) (mvT hZ (hw _ (List.mem_of_getElem? (i := 114) rfl))) (mvT hZ (hw _ (List.mem_of_getElem? (i := 113) rfl))) (by decide) (backOf (W := 0) (rmG_holdP50Ms l Z a0 hw [] b13 (p0 / (1000000 : Int64)) T347.heap n0 Z348 zF2) hZ (hw _ (List.mem_of_getElem? (i := 115) rfl)) (hw _ (List.mem_of_getElem? (i := 62) rfl)) (by decide) (by decide)) q354a q354c (g := (mkF m 238 #[.val (.long p0), .second, .val (.long p1), .second, .val (.long p2), .second, .val (.long p3), .second, .val (.int p4), .val (.int c9), .val (.int c10), .val (.int c11), .val (.ref b12), .val (.ref b13), .val (.long (1 : Int64)), .second, .val (.long (if c9 = (0 : Int32) then (0 : Int64) else 0 + 1)), .second, .val (.long p0), .second, .val (.long p0), .second, .val (.long p1), .second, .val (.long p1), .second, .val (.long p0), .second, .val (.long p1), .second, .val (.double (own_ratio p0 p1)), .second] [(.ref b13)])) rfl (by rw [hml]; rfl) (Steps.refl _) (argsL := []) (rest := []) (lenOf own_pd14 rfl) rfl (by show 2 * 0 + _ ≤ _; exact Nat.le_of_eq rfl) (hb hby at_238) (fun _ _ => ⟨rfl, eh353, (by decide : 6 + 0 ≤ _), (by decide : 2061 + 0 ≤ _)⟩)
    dsimp only [Pt.U, Pt.locs, Pt.cells, Pt.slots] at X354 l354 y354 z354 st354 hQ354
    subst l354 y354 z354
    obtain ⟨rfl, Nq354, eh354⟩ := hQ354
    have N354 := Fr.app N353 Nq354
    obtain ⟨cq355, kq355, q355a, q355b, q355c⟩ := isOf hZ eh354 zE
    obtain ⟨v355, vmx355, ⟨T355, L355, k355, n355⟩, -, X355, ⟨Lc355, hQ355, l355, y355, z355⟩, st355⟩ := X354.virtualBack hx (y := (⟨"com/example/nosy_pool/nosypool/CheckoutStatistics", "holdP99Ms", "()J"⟩ : MethodName)) (z := (⟨"com/example/nosy_pool/nosypool/CheckoutStatistics", "holdP99Ms", "()J"⟩ : MethodName)) hown (mvT hZ (hw _ (List.mem_of_getElem? (i := 117) rfl))) (mvT hZ (hw _ (List.mem_of_getElem? (i := 118) rfl))) (notFace_of_selects (args := #[]) (mvT hZ (hw _ (List.mem_of_getElem? (i := 120) rfl)))) (mvT hZ (hw _ (List.mem_of_getElem? (i := 120) rfl))) (mvT hZ (hw _ (List.mem_of_getElem? (i := 119) rfl))) (by decide) (backOf (W := 0) (rmG_holdP99Ms l Z a0 hw [] b13 (p0 / (1000000 : Int64)) T347.heap n0 Z348 zF3) hZ (hw _ (List.mem_of_getElem? (i := 121) rfl)) (hw _ (List.mem_of_getElem? (i := 62) rfl)) (by decide) (by decide)) q355a q355c (g := (mkF m 253 #[.val (.long p0), .second, .val (.long p1), .second, .val (.long p2), .second, .val (.long p3), .second, .val (.int p4), .val (.int c9), .val (.int c10), .val (.int c11), .val (.ref b12), .val (.ref b13), .val (.long (1 : Int64)), .second, .val (.long (if c9 = (0 : Int32) then (0 : Int64) else 0 + 1)), .second, .val (.long p0), .second, .val (.long p0), .second, .val (.long p1), .second, .val (.long p1), .second, .val (.long p0), .second, .val (.long p1), .second, .val (.double (own_ratio p0 p1)), .second] [(.ref b13)])) rfl (by rw [hml]; rfl) (Steps.refl _) (argsL := []) (rest := []) (lenOf own_pd14 rfl) rfl (by show 2 * 0 + _ ≤ _; exact Nat.le_of_eq rfl) (hb hby at_253) (fun _ _ => ⟨rfl, eh354, (by decide : 6 + 0 ≤ _), (by decide : 2061 + 0 ≤ _)⟩)
    dsimp only [Pt.U, Pt.locs, Pt.cells, Pt.slots] at X355 l355 y355 z355 st355 hQ355
    subst l355 y355 z355
    obtain ⟨rfl, Nq355, eh355⟩ := hQ355
    have N355 := Fr.app N354 Nq355
    obtain ⟨cq356, kq356, q356a, q356b, q356c⟩ := isOf hZ eh355 zE
    obtain ⟨v356, vmx356, ⟨T356, L356, k356, n356⟩, -, X356, ⟨Lc356, hQ356, l356, y356, z356⟩, st356⟩ := X355.virtualBack hx (y := (⟨"com/example/nosy_pool/nosypool/CheckoutStatistics", "busyP50Ms", "()J"⟩ : MethodName)) (z := (⟨"com/example/nosy_pool/nosypool/CheckoutStatistics", "busyP50Ms", "()J"⟩ : MethodName)) hown (mvT hZ (hw _ (List.mem_of_getElem? (i := 122) rfl))) (mvT hZ (hw _ (List.mem_of_getElem? (i := 123) rfl))) (notFace_of_selects (args := #[]) (mvT hZ (hw _ (List.mem_of_getElem? (i := 125) rfl)))) (mvT hZ (hw _ (List.mem_of_getElem? (i := 125) rfl))) (mvT hZ (hw _ (List.mem_of_getElem? (i := 124) rfl))) (by decide) (backOf (W := 0) (rmG_busyP50Ms l Z a0 hw [] b13 (p1 / (1000000 : Int64)) T347.heap n0 Z348 zF4) hZ (hw _ (List.mem_of_getElem? (i := 126) rfl)) (hw _ (List.mem_of_getElem? (i := 62) rfl)) (by decide) (by decide)) q356a q356c (g := (mkF m 268 #[.val (.long p0), .second, .val (.long p1), .second, .val (.long p2), .second, .val (.long p3), .second, .val (.int p4), .val (.int c9), .val (.int c10), .val (.int c11), .val (.ref b12), .val (.ref b13), .val (.long (1 : Int64)), .second, .val (.long (if c9 = (0 : Int32) then (0 : Int64) else 0 + 1)), .second, .val (.long p0), .second, .val (.long p0), .second, .val (.long p1), .second, .val (.long p1), .second, .val (.long p0), .second, .val (.long p1), .second, .val (.double (own_ratio p0 p1)), .second] [(.ref b13)])) rfl (by rw [hml]; rfl) (Steps.refl _) (argsL := []) (rest := []) (lenOf own_pd14 rfl) rfl (by show 2 * 0 + _ ≤ _; exact Nat.le_of_eq rfl) (hb hby at_268) (fun _ _ => ⟨rfl, eh355, (by decide : 6 + 0 ≤ _), (by decide : 2061 + 0 ≤ _)⟩)
    dsimp only [Pt.U, Pt.locs, Pt.cells, Pt.slots] at X356 l356 y356 z356 st356 hQ356
    subst l356 y356 z356
    obtain ⟨rfl, Nq356, eh356⟩ := hQ356
    have N356 := Fr.app N355 Nq356
    obtain ⟨cq357, kq357, q357a, q357b, q357c⟩ := isOf hZ eh356 zE
    obtain ⟨v357, vmx357, ⟨T357, L357, k357, n357⟩, -, X357, ⟨Lc357, hQ357, l357, y357, z357⟩, st357⟩ := X356.virtualBack hx (y := (⟨"com/example/nosy_pool/nosypool/CheckoutStatistics", "busyP99Ms", "()J"⟩ : MethodName)) (z := (⟨"com/example/nosy_pool/nosypool/CheckoutStatistics", "busyP99Ms", "()J"⟩ : MethodName)) hown (mvT hZ (hw _ (List.mem_of_getElem? (i := 127) rfl))) (mvT hZ (hw _ (List.mem_of_getElem? (i := 128) rfl))) (notFace_of_selects (args := #[]) (mvT hZ (hw _ (List.mem_of_getElem? (i := 130) rfl)))) (mvT hZ (hw _ (List.mem_of_getElem? (i := 130) rfl))) (mvT hZ (hw _ (List.mem_of_getElem? (i := 129) rfl))) (by decide) (backOf (W := 0) (rmG_busyP99Ms l Z a0 hw [] b13 (p1 / (1000000 : Int64)) T347.heap n0 Z348 zF5) hZ (hw _ (List.mem_of_getElem? (i := 131) rfl)) (hw _ (List.mem_of_getElem? (i := 62) rfl)) (by decide) (by decide)) q357a q357c (g := (mkF m 283 #[.val (.long p0), .second, .val (.long p1), .second, .val (.long p2), .second, .val (.long p3), .second, .val (.int p4), .val (.int c9), .val (.int c10), .val (.int c11), .val (.ref b12), .val (.ref b13), .val (.long (1 : Int64)), .second, .val (.long (if c9 = (0 : Int32) then (0 : Int64) else 0 + 1)), .second, .val (.long p0), .second, .val (.long p0), .second, .val (.long p1), .second, .val (.long p1), .second, .val (.long p0), .second, .val (.long p1), .second, .val (.double (own_ratio p0 p1)), .second] [(.ref b13)])) rfl (by rw [hml]; rfl) (Steps.refl _) (argsL := []) (rest := []) (lenOf own_pd14 rfl) rfl (by show 2 * 0 + _ ≤ _; exact Nat.le_of_eq rfl) (hb hby at_283) (fun _ _ => ⟨rfl, eh356, (by decide : 6 + 0 ≤ _), (by decide : 2061 + 0 ≤ _)⟩)
    dsimp only [Pt.U, Pt.locs, Pt.cells, Pt.slots] at X357 l357 y357 z357 st357 hQ357
    subst l357 y357 z357
    obtain ⟨rfl, Nq357, eh357⟩ := hQ357
    have N357 := Fr.app N356 Nq357
    obtain ⟨cq358, kq358, q358a, q358b, q358c⟩ := isOf hZ eh357 zE
    obtain ⟨v358, vmx358, ⟨T358, L358, k358, n358⟩, -, X358, ⟨Lc358, hQ358, l358, y358, z358⟩, st358⟩ := X357.virtualBack hx (y := (⟨"com/example/nosy_pool/nosypool/CheckoutStatistics", "busyRatio", "()D"⟩ : MethodName)) (z := (⟨"com/example/nosy_pool/nosypool/CheckoutStatistics", "busyRatio", "()D"⟩ : MethodName)) hown (mvT hZ (hw _ (List.mem_of_getElem? (i := 132) rfl))) (mvT hZ (hw _ (List.mem_of_getElem? (i := 133) rfl))) (notFace_of_selects (args := #[]) (mvT hZ (hw _ (List.mem_of_getElem? (i := 135) rfl)))) (mvT hZ (hw _ (List.mem_of_getElem? (i := 135) rfl))) (mvT hZ (hw _ (List.mem_of_getElem? (i := 134) rfl))) (by decide) (backOf (W := 0) (rmG_busyRatio l Z a0 hw [] b13 (own_ratio p0 p1) T347.heap n0 Z348 zF6) hZ (hw _ (List.mem_of_getElem? (i := 136) rfl)) (hw _ (List.mem_of_getElem? (i := 62) rfl)) (by decide) (by decide)) q358a q358c (g := (mkF m 298 #[.val (.long p0), .second, .val (.long p1), .second, .val (.long p2), .second, .val (.long p3), .second, .val (.int p4), .val (.int c9), .val (.int c10), .val (.int c11), .val (.ref b12), .val (.ref b13), .val (.long (1 : Int64)), .second, .val (.long (if c9 = (0 : Int32) then (0 : Int64) else 0 + 1)), .second, .val (.long p0), .second, .val (.long p0), .second, .val (.long p1), .second, .val (.long p1), .second, .val (.long p0), .second, .val (.long p1), .second, .val (.double (own_ratio p0 p1)), .second] [(.ref b13)])) rfl (by rw [hml]; rfl) (Steps.refl _) (argsL := []) (rest := []) (lenOf own_pd15 rfl) rfl (by show 2 * 0 + _ ≤ _; exact Nat.le_of_eq rfl) (hb hby at_298) (fun _ _ => ⟨rfl, eh357, (by decide : 6 + 0 ≤ _), (by decide : 2061 + 0 ≤ _)⟩)
    dsimp only [Pt.U, Pt.locs, Pt.cells, Pt.slots] at X358 l358 y358 z358 st358 hQ358
    subst l358 y358 z358
    obtain ⟨rfl, Nq358, eh358⟩ := hQ358
    have N358 := Fr.app N357 Nq358
    obtain ⟨fs, hr, hrun, hended, hW, hsame⟩ := X358.leave (v := some (.int (1 : Int32))) (fun h => by rw [hret0] at h; cases h)
    refine ⟨_, _, pre0 _ ?_, hrun, hended, _, _, rfl, ?_, ⟨_, rfl⟩, hW, hsame.mono (by decide) (by decide)⟩
    · show Steps p.tables e below (s₁.setTop (mkF m 0 #[.val (.long p0), .second, .val (.long p1), .second, .val (.long p2), .second, .val (.long p3), .second, .val (.int p4), .unset, .unset, .unset, .unset, .unset, .unset, .unset, .unset, .unset, .unset, .unset, .unset, .unset, .unset, .unset, .unset, .unset, .unset, .unset, .unset, .unset, .unset, .unset] [])) _
      refine st331 _ ?_
      show Steps p.tables e below (s₁.setTop (mkF m 12 #[.val (.long p0), .second, .val (.long p1), .second, .val (.long p2), .second, .val (.long p3), .second, .val (.int p4), .unset, .unset, .unset, .unset, .unset, .unset, .unset, .unset, .unset, .unset, .unset, .unset, .unset, .unset, .unset, .unset, .unset, .unset, .unset, .unset, .unset, .unset, .unset] [(.int c9)])) _
      refine XS.istore X0.here hx rfl (hb hby at_12) rfl (l' := #[.val (.long p0), .second, .val (.long p1), .second, .val (.long p2), .second, .val (.long p3), .second, .val (.int p4), .val (.int c9), .unset, .unset, .unset, .unset, .unset, .unset, .unset, .unset, .unset, .unset, .unset, .unset, .unset, .unset, .unset, .unset, .unset, .unset, .unset, .unset, .unset, .unset]) rfl ?_
      show Steps p.tables e below (s₁.setTop (mkF m 14 #[.val (.long p0), .second, .val (.long p1), .second, .val (.long p2), .second, .val (.long p3), .second, .val (.int p4), .val (.int c9), .unset, .unset, .unset, .unset, .unset, .unset, .unset, .unset, .unset, .unset, .unset, .unset, .unset, .unset, .unset, .unset, .unset, .unset, .unset, .unset, .unset, .unset] [])) _
      refine st332 _ ?_
      show Steps p.tables e below (s₁.setTop (mkF m 26 #[.val (.long p0), .second, .val (.long p1), .second, .val (.long p2), .second, .val (.long p3), .second, .val (.int p4), .val (.int c9), .unset, .unset, .unset, .unset, .unset, .unset, .unset, .unset, .unset, .unset, .unset, .unset, .unset, .unset, .unset, .unset, .unset, .unset, .unset, .unset, .unset, .unset] [(.int c10)])) _
      refine XS.istore X0.here hx rfl (hb hby at_26) rfl (l' := #[.val (.long p0), .second, .val (.long p1), .second, .val (.long p2), .second, .val (.long p3), .second, .val (.int p4), .val (.int c9), .val (.int c10), .unset, .unset, .unset, .unset, .unset, .unset, .unset, .unset, .unset, .unset, .unset, .unset, .unset, .unset, .unset, .unset, .unset, .unset, .unset, .unset, .unset]) rfl ?_
      show Steps p.tables e below (s₁.setTop (mkF m 28 #[.val (.long p0), .second, .val (.long p1), .second, .val (.long p2), .second, .val (.long p3), .second, .val (.int p4), .val (.int c9), .val (.int c10), .unset, .unset, .unset, .unset, .unset, .unset, .unset, .unset, .unset, .unset, .unset, .unset, .unset, .unset, .unset, .unset, .unset, .unset, .unset, .unset, .unset] [])) _
      refine st333 _ ?_
      show Steps p.tables e below (s₁.setTop (mkF m 40 #[.val (.long p0), .second, .val (.long p1), .second, .val (.long p2), .second, .val (.long p3), .second, .val (.int p4), .val (.int c9), .val (.int c10), .unset, .unset, .unset, .unset, .unset, .unset, .unset, .unset, .unset, .unset, .unset, .unset, .unset, .unset, .unset, .unset, .unset, .unset, .unset, .unset, .unset] [(.int c11)])) _
      refine XS.istore X0.here hx rfl (hb hby at_40) rfl (l' := #[.val (.long p0), .second, .val (.long p1), .second, .val (.long p2), .second, .val (.long p3), .second, .val (.int p4), .val (.int c9), .val (.int c10), .val (.int c11), .unset, .unset, .unset, .unset, .unset, .unset, .unset, .unset, .unset, .unset, .unset, .unset, .unset, .unset, .unset, .unset, .unset, .unset, .unset, .unset]) rfl ?_
      show Steps p.tables e below (s₁.setTop (mkF m 42 #[.val (.long p0), .second, .val (.long p1), .second, .val (.long p2), .second, .val (.long p3), .second, .val (.int p4), .val (.int c9), .val (.int c10), .val (.int c11), .unset, .unset, .unset, .unset, .unset, .unset, .unset, .unset, .unset, .unset, .unset, .unset, .unset, .unset, .unset, .unset, .unset, .unset, .unset, .unset] [])) _
      refine st334 _ ?_
      show Steps p.tables e below (T334.setTop (mkF m 76 #[.val (.long p0), .second, .val (.long p1), .second, .val (.long p2), .second, .val (.long p3), .second, .val (.int p4), .val (.int c9), .val (.int c10), .val (.int c11), .val (.ref b12), .unset, .unset, .unset, .unset, .unset, .unset, .unset, .unset, .unset, .unset, .unset, .unset, .unset, .unset, .unset, .unset, .unset, .unset, .unset] [])) _
      refine XS.aload X334.here hx rfl (hb hby at_76) rfl rfl ?_
      show Steps p.tables e below (T334.setTop (mkF m 78 #[.val (.long p0), .second, .val (.long p1), .second, .val (.long p2), .second, .val (.long p3), .second, .val (.int p4), .val (.int c9), .val (.int c10), .val (.int c11), .val (.ref b12), .unset, .unset, .unset, .unset, .unset, .unset, .unset, .unset, .unset, .unset, .unset, .unset, .unset, .unset, .unset, .unset, .unset, .unset, .unset] [(.ref b12)])) _
      refine st347.trans ?_
      show Steps p.tables e below (T347.setTop (mkF m 81 #[.val (.long p0), .second, .val (.long p1), .second, .val (.long p2), .second, .val (.long p3), .second, .val (.int p4), .val (.int c9), .val (.int c10), .val (.int c11), .val (.ref b12), .unset, .unset, .unset, .unset, .unset, .unset, .unset, .unset, .unset, .unset, .unset, .unset, .unset, .unset, .unset, .unset, .unset, .unset, .unset] [(.ref b13)])) _
      refine XS.astore X347.here hx rfl (hb hby at_81) rfl rfl (l' := #[.val (.long p0), .second, .val (.long p1), .second, .val (.long p2), .second, .val (.long p3), .second, .val (.int p4), .val (.int c9), .val (.int c10), .val (.int c11), .val (.ref b12), .val (.ref b13), .unset, .unset, .unset, .unset, .unset, .unset, .unset, .unset, .unset, .unset, .unset, .unset, .unset, .unset, .unset, .unset, .unset, .unset]) rfl ?_
      show Steps p.tables e below (T347.setTop (mkF m 83 #[.val (.long p0), .second, .val (.long p1), .second, .val (.long p2), .second, .val (.long p3), .second, .val (.int p4), .val (.int c9), .val (.int c10), .val (.int c11), .val (.ref b12), .val (.ref b13), .unset, .unset, .unset, .unset, .unset, .unset, .unset, .unset, .unset, .unset, .unset, .unset, .unset, .unset, .unset, .unset, .unset, .unset] [])) _
      refine XS.iload X347.here hx rfl (hb hby at_83) rfl ?_
      show Steps p.tables e below (T347.setTop (mkF m 85 #[.val (.long p0), .second, .val (.long p1), .second, .val (.long p2), .second, .val (.long p3), .second, .val (.int p4), .val (.int c9), .val (.int c10), .val (.int c11), .val (.ref b12), .val (.ref b13), .unset, .unset, .unset, .unset, .unset, .unset, .unset, .unset, .unset, .unset, .unset, .unset, .unset, .unset, .unset, .unset, .unset, .unset] [(.int c11)])) _
      refine XS.ifYes X347.here hx rfl (pc0 := 85) (pc' := 94) rfl (hb hby at_85) rfl ((if0 _ _).trans (teq hc11).1) (by decide) (by decide) ?_
      show Steps p.tables e below (T347.setTop (mkF m 94 #[.val (.long p0), .second, .val (.long p1), .second, .val (.long p2), .second, .val (.long p3), .second, .val (.int p4), .val (.int c9), .val (.int c10), .val (.int c11), .val (.ref b12), .val (.ref b13), .unset, .unset, .unset, .unset, .unset, .unset, .unset, .unset, .unset, .unset, .unset, .unset, .unset, .unset, .unset, .unset, .unset, .unset] [])) _
      refine XS.lconst X347.here hx rfl (hb hby at_94) ?_
      show Steps p.tables e below (T347.setTop (mkF m 95 #[.val (.long p0), .second, .val (.long p1), .second, .val (.long p2), .second, .val (.long p3), .second, .val (.int p4), .val (.int c9), .val (.int c10), .val (.int c11), .val (.ref b12), .val (.ref b13), .unset, .unset, .unset, .unset, .unset, .unset, .unset, .unset, .unset, .unset, .unset, .unset, .unset, .unset, .unset, .unset, .unset, .unset] [(.long (1 : Int64))])) _
      refine XS.lstore X347.here hx rfl (hb hby at_95) rfl (l' := #[.val (.long p0), .second, .val (.long p1), .second, .val (.long p2), .second, .val (.long p3), .second, .val (.int p4), .val (.int c9), .val (.int c10), .val (.int c11), .val (.ref b12), .val (.ref b13), .val (.long (1 : Int64)), .second, .unset, .unset, .unset, .unset, .unset, .unset, .unset, .unset, .unset, .unset, .unset, .unset, .unset, .unset, .unset, .unset]) rfl ?_
      show Steps p.tables e below (T347.setTop (mkF m 97 #[.val (.long p0), .second, .val (.long p1), .second, .val (.long p2), .second, .val (.long p3), .second, .val (.int p4), .val (.int c9), .val (.int c10), .val (.int c11), .val (.ref b12), .val (.ref b13), .val (.long (1 : Int64)), .second, .unset, .unset, .unset, .unset, .unset, .unset, .unset, .unset, .unset, .unset, .unset, .unset, .unset, .unset, .unset, .unset] [])) _
      refine st350 _ ?_
      show Steps p.tables e below (T347.setTop (mkF m 125 #[.val (.long p0), .second, .val (.long p1), .second, .val (.long p2), .second, .val (.long p3), .second, .val (.int p4), .val (.int c9), .val (.int c10), .val (.int c11), .val (.ref b12), .val (.ref b13), .val (.long (1 : Int64)), .second, .val (.long (if c9 = (0 : Int32) then (0 : Int64) else 0 + 1)), .second, .unset, .unset, .unset, .unset, .unset, .unset, .unset, .unset, .unset, .unset, .unset, .unset, .unset, .unset] [])) _
      refine XS.iload X347.here hx rfl (hb hby at_125) rfl ?_
      show Steps p.tables e below (T347.setTop (mkF m 127 #[.val (.long p0), .second, .val (.long p1), .second, .val (.long p2), .second, .val (.long p3), .second, .val (.int p4), .val (.int c9), .val (.int c10), .val (.int c11), .val (.ref b12), .val (.ref b13), .val (.long (1 : Int64)), .second, .val (.long (if c9 = (0 : Int32) then (0 : Int64) else 0 + 1)), .second, .unset, .unset, .unset, .unset, .unset, .unset, .unset, .unset, .unset, .unset, .unset, .unset, .unset, .unset] [(.int c11)])) _
      refine XS.ifYes X347.here hx rfl (pc0 := 127) (pc' := 177) rfl (hb hby at_127) rfl ((if0 _ _).trans (teq hc11).1) (by decide) (by decide) ?_
      show Steps p.tables e below (T347.setTop (mkF m 177 #[.val (.long p0), .second, .val (.long p1), .second, .val (.long p2), .second, .val (.long p3), .second, .val (.int p4), .val (.int c9), .val (.int c10), .val (.int c11), .val (.ref b12), .val (.ref b13), .val (.long (1 : Int64)), .second, .val (.long (if c9 = (0 : Int32) then (0 : Int64) else 0 + 1)), .second, .unset, .unset, .unset, .unset, .unset, .unset, .unset, .unset, .unset, .unset, .unset, .unset, .unset, .unset] [])) _
      refine XS.lloadN X347.here hx rfl (hb hby at_177) rfl ?_
      show Steps p.tables e below (T347.setTop (mkF m 178 #[.val (.long p0), .second, .val (.long p1), .second, .val (.long p2), .second, .val (.long p3), .second, .val (.int p4), .val (.int c9), .val (.int c10), .val (.int c11), .val (.ref b12), .val (.ref b13), .val (.long (1 : Int64)), .second, .val (.long (if c9 = (0 : Int32) then (0 : Int64) else 0 + 1)), .second, .unset, .unset, .unset, .unset, .unset, .unset, .unset, .unset, .unset, .unset, .unset, .unset, .unset, .unset] [(.long p0)])) _
      refine XS.lstore X347.here hx rfl (hb hby at_178) rfl (l' := #[.val (.long p0), .second, .val (.long p1), .second, .val (.long p2), .second, .val (.long p3), .second, .val (.int p4), .val (.int c9), .val (.int c10), .val (.int c11), .val (.ref b12), .val (.ref b13), .val (.long (1 : Int64)), .second, .val (.long (if c9 = (0 : Int32) then (0 : Int64) else 0 + 1)), .second, .val (.long p0), .second, .unset, .unset, .unset, .unset, .unset, .unset, .unset, .unset, .unset, .unset, .unset, .unset]) rfl ?_
      show Steps p.tables e below (T347.setTop (mkF m 180 #[.val (.long p0), .second, .val (.long p1), .second, .val (.long p2), .second, .val (.long p3), .second, .val (.int p4), .val (.int c9), .val (.int c10), .val (.int c11), .val (.ref b12), .val (.ref b13), .val (.long (1 : Int64)), .second, .val (.long (if c9 = (0 : Int32) then (0 : Int64) else 0 + 1)), .second, .val (.long p0), .second, .unset, .unset, .unset, .unset, .unset, .unset, .unset, .unset, .unset, .unset, .unset, .unset] [])) _
      refine XS.lloadN X347.here hx rfl (hb hby at_180) rfl ?_
      show Steps p.tables e below (T347.setTop (mkF m 181 #[.val (.long p0), .second, .val (.long p1), .second, .val (.long p2), .second, .val (.long p3), .second, .val (.int p4), .val (.int c9), .val (.int c10), .val (.int c11), .val (.ref b12), .val (.ref b13), .val (.long (1 : Int64)), .second, .val (.long (if c9 = (0 : Int32) then (0 : Int64) else 0 + 1)), .second, .val (.long p0), .second, .unset, .unset, .unset, .unset, .unset, .unset, .unset, .unset, .unset, .unset, .unset, .unset] [(.long p0)])) _
      refine XS.lstore X347.here hx rfl (hb hby at_181) rfl (l' := #[.val (.long p0), .second, .val (.long p1), .second, .val (.long p2), .second, .val (.long p3), .second, .val (.int p4), .val (.int c9), .val (.int c10), .val (.int c11), .val (.ref b12), .val (.ref b13), .val (.long (1 : Int64)), .second, .val (.long (if c9 = (0 : Int32) then (0 : Int64) else 0 + 1)), .second, .val (.long p0), .second, .val (.long p0), .second, .unset, .unset, .unset, .unset, .unset, .unset, .unset, .unset, .unset, .unset]) rfl ?_
      show Steps p.tables e below (T347.setTop (mkF m 183 #[.val (.long p0), .second, .val (.long p1), .second, .val (.long p2), .second, .val (.long p3), .second, .val (.int p4), .val (.int c9), .val (.int c10), .val (.int c11), .val (.ref b12), .val (.ref b13), .val (.long (1 : Int64)), .second, .val (.long (if c9 = (0 : Int32) then (0 : Int64) else 0 + 1)), .second, .val (.long p0), .second, .val (.long p0), .second, .unset, .unset, .unset, .unset, .unset, .unset, .unset, .unset, .unset, .unset] [])) _
      refine XS.lloadN X347.here hx rfl (hb hby at_183) rfl ?_
      show Steps p.tables e below (T347.setTop (mkF m 184 #[.val (.long p0), .second, .val (.long p1), .second, .val (.long p2), .second, .val (.long p3), .second, .val (.int p4), .val (.int c9), .val (.int c10), .val (.int c11), .val (.ref b12), .val (.ref b13), .val (.long (1 : Int64)), .second, .val (.long (if c9 = (0 : Int32) then (0 : Int64) else 0 + 1)), .second, .val (.long p0), .second, .val (.long p0), .second, .unset, .unset, .unset, .unset, .unset, .unset, .unset, .unset, .unset, .unset] [(.long p1)])) _
      refine XS.lstore X347.here hx rfl (hb hby at_184) rfl (l' := #[.val (.long p0), .second, .val (.long p1), .second, .val (.long p2), .second, .val (.long p3), .second, .val (.int p4), .val (.int c9), .val (.int c10), .val (.int c11), .val (.ref b12), .val (.ref b13), .val (.long (1 : Int64)), .second, .val (.long (if c9 = (0 : Int32) then (0 : Int64) else 0 + 1)), .second, .val (.long p0), .second, .val (.long p0), .second, .val (.long p1), .second, .unset, .unset, .unset, .unset, .unset, .unset, .unset, .unset]) rfl ?_
      show Steps p.tables e below (T347.setTop (mkF m 186 #[.val (.long p0), .second, .val (.long p1), .second, .val (.long p2), .second, .val (.long p3), .second, .val (.int p4), .val (.int c9), .val (.int c10), .val (.int c11), .val (.ref b12), .val (.ref b13), .val (.long (1 : Int64)), .second, .val (.long (if c9 = (0 : Int32) then (0 : Int64) else 0 + 1)), .second, .val (.long p0), .second, .val (.long p0), .second, .val (.long p1), .second, .unset, .unset, .unset, .unset, .unset, .unset, .unset, .unset] [])) _
      refine XS.lloadN X347.here hx rfl (hb hby at_186) rfl ?_
      show Steps p.tables e below (T347.setTop (mkF m 187 #[.val (.long p0), .second, .val (.long p1), .second, .val (.long p2), .second, .val (.long p3), .second, .val (.int p4), .val (.int c9), .val (.int c10), .val (.int c11), .val (.ref b12), .val (.ref b13), .val (.long (1 : Int64)), .second, .val (.long (if c9 = (0 : Int32) then (0 : Int64) else 0 + 1)), .second, .val (.long p0), .second, .val (.long p0), .second, .val (.long p1), .second, .unset, .unset, .unset, .unset, .unset, .unset, .unset, .unset] [(.long p1)])) _
      refine XS.lstore X347.here hx rfl (hb hby at_187) rfl (l' := #[.val (.long p0), .second, .val (.long p1), .second, .val (.long p2), .second, .val (.long p3), .second, .val (.int p4), .val (.int c9), .val (.int c10), .val (.int c11), .val (.ref b12), .val (.ref b13), .val (.long (1 : Int64)), .second, .val (.long (if c9 = (0 : Int32) then (0 : Int64) else 0 + 1)), .second, .val (.long p0), .second, .val (.long p0), .second, .val (.long p1), .second, .val (.long p1), .second, .unset, .unset, .unset, .unset, .unset, .unset]) rfl ?_
      show Steps p.tables e below (T347.setTop (mkF m 189 #[.val (.long p0), .second, .val (.long p1), .second, .val (.long p2), .second, .val (.long p3), .second, .val (.int p4), .val (.int c9), .val (.int c10), .val (.int c11), .val (.ref b12), .val (.ref b13), .val (.long (1 : Int64)), .second, .val (.long (if c9 = (0 : Int32) then (0 : Int64) else 0 + 1)), .second, .val (.long p0), .second, .val (.long p0), .second, .val (.long p1), .second, .val (.long p1), .second, .unset, .unset, .unset, .unset, .unset, .unset] [])) _
      refine XS.lloadN X347.here hx rfl (hb hby at_189) rfl ?_
      show Steps p.tables e below (T347.setTop (mkF m 190 #[.val (.long p0), .second, .val (.long p1), .second, .val (.long p2), .second, .val (.long p3), .second, .val (.int p4), .val (.int c9), .val (.int c10), .val (.int c11), .val (.ref b12), .val (.ref b13), .val (.long (1 : Int64)), .second, .val (.long (if c9 = (0 : Int32) then (0 : Int64) else 0 + 1)), .second, .val (.long p0), .second, .val (.long p0), .second, .val (.long p1), .second, .val (.long p1), .second, .unset, .unset, .unset, .unset, .unset, .unset] [(.long p0)])) _
      refine XS.lstore X347.here hx rfl (hb hby at_190) rfl (l' := #[.val (.long p0), .second, .val (.long p1), .second, .val (.long p2), .second, .val (.long p3), .second, .val (.int p4), .val (.int c9), .val (.int c10), .val (.int c11), .val (.ref b12), .val (.ref b13), .val (.long (1 : Int64)), .second, .val (.long (if c9 = (0 : Int32) then (0 : Int64) else 0 + 1)), .second, .val (.long p0), .second, .val (.long p0), .second, .val (.long p1), .second, .val (.long p1), .second, .val (.long p0), .second, .unset, .unset, .unset, .unset]) rfl ?_
      show Steps p.tables e below (T347.setTop (mkF m 192 #[.val (.long p0), .second, .val (.long p1), .second, .val (.long p2), .second, .val (.long p3), .second, .val (.int p4), .val (.int c9), .val (.int c10), .val (.int c11), .val (.ref b12), .val (.ref b13), .val (.long (1 : Int64)), .second, .val (.long (if c9 = (0 : Int32) then (0 : Int64) else 0 + 1)), .second, .val (.long p0), .second, .val (.long p0), .second, .val (.long p1), .second, .val (.long p1), .second, .val (.long p0), .second, .unset, .unset, .unset, .unset] [])) _
      refine XS.lloadN X347.here hx rfl (hb hby at_192) rfl ?_
      show Steps p.tables e below (T347.setTop (mkF m 193 #[.val (.long p0), .second, .val (.long p1), .second, .val (.long p2), .second, .val (.long p3), .second, .val (.int p4), .val (.int c9), .val (.int c10), .val (.int c11), .val (.ref b12), .val (.ref b13), .val (.long (1 : Int64)), .second, .val (.long (if c9 = (0 : Int32) then (0 : Int64) else 0 + 1)), .second, .val (.long p0), .second, .val (.long p0), .second, .val (.long p1), .second, .val (.long p1), .second, .val (.long p0), .second, .unset, .unset, .unset, .unset] [(.long p1)])) _
      refine XS.lstore X347.here hx rfl (hb hby at_193) rfl (l' := #[.val (.long p0), .second, .val (.long p1), .second, .val (.long p2), .second, .val (.long p3), .second, .val (.int p4), .val (.int c9), .val (.int c10), .val (.int c11), .val (.ref b12), .val (.ref b13), .val (.long (1 : Int64)), .second, .val (.long (if c9 = (0 : Int32) then (0 : Int64) else 0 + 1)), .second, .val (.long p0), .second, .val (.long p0), .second, .val (.long p1), .second, .val (.long p1), .second, .val (.long p0), .second, .val (.long p1), .second, .unset, .unset]) rfl ?_
      show Steps p.tables e below (T347.setTop (mkF m 195 #[.val (.long p0), .second, .val (.long p1), .second, .val (.long p2), .second, .val (.long p3), .second, .val (.int p4), .val (.int c9), .val (.int c10), .val (.int c11), .val (.ref b12), .val (.ref b13), .val (.long (1 : Int64)), .second, .val (.long (if c9 = (0 : Int32) then (0 : Int64) else 0 + 1)), .second, .val (.long p0), .second, .val (.long p0), .second, .val (.long p1), .second, .val (.long p1), .second, .val (.long p0), .second, .val (.long p1), .second, .unset, .unset] [])) _
      refine st351 _ ?_
      show Steps p.tables e below (T347.setTop (mkF m 214 #[.val (.long p0), .second, .val (.long p1), .second, .val (.long p2), .second, .val (.long p3), .second, .val (.int p4), .val (.int c9), .val (.int c10), .val (.int c11), .val (.ref b12), .val (.ref b13), .val (.long (1 : Int64)), .second, .val (.long (if c9 = (0 : Int32) then (0 : Int64) else 0 + 1)), .second, .val (.long p0), .second, .val (.long p0), .second, .val (.long p1), .second, .val (.long p1), .second, .val (.long p0), .second, .val (.long p1), .second, .val (.double (own_ratio p0 p1)), .second] [])) _
      refine XS.aload X347.here hx rfl (hb hby at_214) rfl rfl ?_
      show Steps p.tables e below (T347.setTop (mkF m 216 #[.val (.long p0), .second, .val (.long p1), .second, .val (.long p2), .second, .val (.long p3), .second, .val (.int p4), .val (.int c9), .val (.int c10), .val (.int c11), .val (.ref b12), .val (.ref b13), .val (.long (1 : Int64)), .second, .val (.long (if c9 = (0 : Int32) then (0 : Int64) else 0 + 1)), .second, .val (.long p0), .second, .val (.long p0), .second, .val (.long p1), .second, .val (.long p1), .second, .val (.long p0), .second, .val (.long p1), .second, .val (.double (own_ratio p0 p1)), .second] [(.ref b13)])) _
      refine st352.trans ?_
      show Steps p.tables e below (T352.setTop (mkF m 219 #[.val (.long p0), .second, .val (.long p1), .second, .val (.long p2), .second, .val (.long p3), .second, .val (.int p4), .val (.int c9), .val (.int c10), .val (.int c11), .val (.ref b12), .val (.ref b13), .val (.long (1 : Int64)), .second, .val (.long (if c9 = (0 : Int32) then (0 : Int64) else 0 + 1)), .second, .val (.long p0), .second, .val (.long p0), .second, .val (.long p1), .second, .val (.long p1), .second, .val (.long p0), .second, .val (.long p1), .second, .val (.double (own_ratio p0 p1)), .second] [(.long (1 : Int64))])) _
      refine XS.lload X352.here hx rfl (hb hby at_219) rfl ?_
      show Steps p.tables e below (T352.setTop (mkF m 221 #[.val (.long p0), .second, .val (.long p1), .second, .val (.long p2), .second, .val (.long p3), .second, .val (.int p4), .val (.int c9), .val (.int c10), .val (.int c11), .val (.ref b12), .val (.ref b13), .val (.long (1 : Int64)), .second, .val (.long (if c9 = (0 : Int32) then (0 : Int64) else 0 + 1)), .second, .val (.long p0), .second, .val (.long p0), .second, .val (.long p1), .second, .val (.long p1), .second, .val (.long p0), .second, .val (.long p1), .second, .val (.double (own_ratio p0 p1)), .second] [(.long (1 : Int64)), (.long (1 : Int64))])) _
      refine XS.lcmp X352.here hx rfl (hb hby at_221) rfl ?_
      show Steps p.tables e below (T352.setTop (mkF m 222 #[.val (.long p0), .second, .val (.long p1), .second, .val (.long p2), .second, .val (.long p3), .second, .val (.int p4), .val (.int c9), .val (.int c10), .val (.int c11), .val (.ref b12), .val (.ref b13), .val (.long (1 : Int64)), .second, .val (.long (if c9 = (0 : Int32) then (0 : Int64) else 0 + 1)), .second, .val (.long p0), .second, .val (.long p0), .second, .val (.long p1), .second, .val (.long p1), .second, .val (.long p0), .second, .val (.long p1), .second, .val (.double (own_ratio p0 p1)), .second] [(.int (lcmpW (1 : Int64) (1 : Int64)))])) _
      refine XS.ifNo X352.here hx rfl (hb hby at_222) rfl ((if0 _ _).trans (teq ((lw_eq _ _).mpr rfl)).2) ?_
      show Steps p.tables e below (T352.setTop (mkF m 225 #[.val (.long p0), .second, .val (.long p1), .second, .val (.long p2), .second, .val (.long p3), .second, .val (.int p4), .val (.int c9), .val (.int c10), .val (.int c11), .val (.ref b12), .val (.ref b13), .val (.long (1 : Int64)), .second, .val (.long (if c9 = (0 : Int32) then (0 : Int64) else 0 + 1)), .second, .val (.long p0), .second, .val (.long p0), .second, .val (.long p1), .second, .val (.long p1), .second, .val (.long p0), .second, .val (.long p1), .second, .val (.double (own_ratio p0 p1)), .second] [])) _
      refine XS.aload X352.here hx rfl (hb hby at_225) rfl rfl ?_
      show Steps p.tables e below (T352.setTop (mkF m 227 #[.val (.long p0), .second, .val (.long p1), .second, .val (.long p2), .second, .val (.long p3), .second, .val (.int p4), .val (.int c9), .val (.int c10), .val (.int c11), .val (.ref b12), .val (.ref b13), .val (.long (1 : Int64)), .second, .val (.long (if c9 = (0 : Int32) then (0 : Int64) else 0 + 1)), .second, .val (.long p0), .second, .val (.long p0), .second, .val (.long p1), .second, .val (.long p1), .second, .val (.long p0), .second, .val (.long p1), .second, .val (.double (own_ratio p0 p1)), .second] [(.ref b13)])) _
      refine st353.trans ?_
      show Steps p.tables e below (T353.setTop (mkF m 230 #[.val (.long p0), .second, .val (.long p1), .second, .val (.long p2), .second, .val (.long p3), .second, .val (.int p4), .val (.int c9), .val (.int c10), .val (.int c11), .val (.ref b12), .val (.ref b13), .val (.long (1 : Int64)), .second, .val (.long (if c9 = (0 : Int32) then (0 : Int64) else 0 + 1)), .second, .val (.long p0), .second, .val (.long p0), .second, .val (.long p1), .second, .val (.long p1), .second, .val (.long p0), .second, .val (.long p1), .second, .val (.double (own_ratio p0 p1)), .second] [(.long (if c9 = (0 : Int32) then (0 : Int64) else 0 + 1))])) _
      refine XS.lload X353.here hx rfl (hb hby at_230) rfl ?_
      show Steps p.tables e below (T353.setTop (mkF m 232 #[.val (.long p0), .second, .val (.long p1), .second, .val (.long p2), .second, .val (.long p3), .second, .val (.int p4), .val (.int c9), .val (.int c10), .val (.int c11), .val (.ref b12), .val (.ref b13), .val (.long (1 : Int64)), .second, .val (.long (if c9 = (0 : Int32) then (0 : Int64) else 0 + 1)), .second, .val (.long p0), .second, .val (.long p0), .second, .val (.long p1), .second, .val (.long p1), .second, .val (.long p0), .second, .val (.long p1), .second, .val (.double (own_ratio p0 p1)), .second] [(.long (if c9 = (0 : Int32) then (0 : Int64) else 0 + 1)), (.long (if c9 = (0 : Int32) then (0 : Int64) else 0 + 1))])) _
      refine XS.lcmp X353.here hx rfl (hb hby at_232) rfl ?_
      show Steps p.tables e below (T353.setTop (mkF m 233 #[.val (.long p0), .second, .val (.long p1), .second, .val (.long p2), .second, .val (.long p3), .second, .val (.int p4), .val (.int c9), .val (.int c10), .val (.int c11), .val (.ref b12), .val (.ref b13), .val (.long (1 : Int64)), .second, .val (.long (if c9 = (0 : Int32) then (0 : Int64) else 0 + 1)), .second, .val (.long p0), .second, .val (.long p0), .second, .val (.long p1), .second, .val (.long p1), .second, .val (.long p0), .second, .val (.long p1), .second, .val (.double (own_ratio p0 p1)), .second] [(.int (lcmpW (if c9 = (0 : Int32) then (0 : Int64) else 0 + 1) (if c9 = (0 : Int32) then (0 : Int64) else 0 + 1)))])) _
      refine XS.ifNo X353.here hx rfl (hb hby at_233) rfl ((if0 _ _).trans (teq ((lw_eq _ _).mpr rfl)).2) ?_
      show Steps p.tables e below (T353.setTop (mkF m 236 #[.val (.long p0), .second, .val (.long p1), .second, .val (.long p2), .second, .val (.long p3), .second, .val (.int p4), .val (.int c9), .val (.int c10), .val (.int c11), .val (.ref b12), .val (.ref b13), .val (.long (1 : Int64)), .second, .val (.long (if c9 = (0 : Int32) then (0 : Int64) else 0 + 1)), .second, .val (.long p0), .second, .val (.long p0), .second, .val (.long p1), .second, .val (.long p1), .second, .val (.long p0), .second, .val (.long p1), .second, .val (.double (own_ratio p0 p1)), .second] [])) _
      refine XS.aload X353.here hx rfl (hb hby at_236) rfl rfl ?_
      show Steps p.tables e below (T353.setTop (mkF m 238 #[.val (.long p0), .second, .val (.long p1), .second, .val (.long p2), .second, .val (.long p3), .second, .val (.int p4), .val (.int c9), .val (.int c10), .val (.int c11), .val (.ref b12), .val (.ref b13), .val (.long (1 : Int64)), .second, .val (.long (if c9 = (0 : Int32) then (0 : Int64) else 0 + 1)), .second, .val (.long p0), .second, .val (.long p0), .second, .val (.long p1), .second, .val (.long p1), .second, .val (.long p0), .second, .val (.long p1), .second, .val (.double (own_ratio p0 p1)), .second] [(.ref b13)])) _
      refine st354.trans ?_
      show Steps p.tables e below (T354.setTop (mkF m 241 #[.val (.long p0), .second, .val (.long p1), .second, .val (.long p2), .second, .val (.long p3), .second, .val (.int p4), .val (.int c9), .val (.int c10), .val (.int c11), .val (.ref b12), .val (.ref b13), .val (.long (1 : Int64)), .second, .val (.long (if c9 = (0 : Int32) then (0 : Int64) else 0 + 1)), .second, .val (.long p0), .second, .val (.long p0), .second, .val (.long p1), .second, .val (.long p1), .second, .val (.long p0), .second, .val (.long p1), .second, .val (.double (own_ratio p0 p1)), .second] [(.long (p0 / (1000000 : Int64)))])) _
      refine XS.lload X354.here hx rfl (hb hby at_241) rfl ?_
      show Steps p.tables e below (T354.setTop (mkF m 243 #[.val (.long p0), .second, .val (.long p1), .second, .val (.long p2), .second, .val (.long p3), .second, .val (.int p4), .val (.int c9), .val (.int c10), .val (.int c11), .val (.ref b12), .val (.ref b13), .val (.long (1 : Int64)), .second, .val (.long (if c9 = (0 : Int32) then (0 : Int64) else 0 + 1)), .second, .val (.long p0), .second, .val (.long p0), .second, .val (.long p1), .second, .val (.long p1), .second, .val (.long p0), .second, .val (.long p1), .second, .val (.double (own_ratio p0 p1)), .second] [(.long p0), (.long (p0 / (1000000 : Int64)))])) _
      refine X354.ldc2Long hx hown (mvT hZ (hw _ (List.mem_of_getElem? (i := 116) rfl))) (g := (mkF m 243 #[.val (.long p0), .second, .val (.long p1), .second, .val (.long p2), .second, .val (.long p3), .second, .val (.int p4), .val (.int c9), .val (.int c10), .val (.int c11), .val (.ref b12), .val (.ref b13), .val (.long (1 : Int64)), .second, .val (.long (if c9 = (0 : Int32) then (0 : Int64) else 0 + 1)), .second, .val (.long p0), .second, .val (.long p0), .second, .val (.long p1), .second, .val (.long p1), .second, .val (.long p0), .second, .val (.long p1), .second, .val (.double (own_ratio p0 p1)), .second] [(.long p0), (.long (p0 / (1000000 : Int64)))])) rfl (hb hby at_243) _ ?_
      show Steps p.tables e below (T354.setTop (mkF m 246 #[.val (.long p0), .second, .val (.long p1), .second, .val (.long p2), .second, .val (.long p3), .second, .val (.int p4), .val (.int c9), .val (.int c10), .val (.int c11), .val (.ref b12), .val (.ref b13), .val (.long (1 : Int64)), .second, .val (.long (if c9 = (0 : Int32) then (0 : Int64) else 0 + 1)), .second, .val (.long p0), .second, .val (.long p0), .second, .val (.long p1), .second, .val (.long p1), .second, .val (.long p0), .second, .val (.long p1), .second, .val (.double (own_ratio p0 p1)), .second] [(.long (1000000 : Int64)), (.long p0), (.long (p0 / (1000000 : Int64)))])) _
      refine XS.ldiv X354.here hx rfl (hb hby at_246) rfl (by decide) ?_
      show Steps p.tables e below (T354.setTop (mkF m 247 #[.val (.long p0), .second, .val (.long p1), .second, .val (.long p2), .second, .val (.long p3), .second, .val (.int p4), .val (.int c9), .val (.int c10), .val (.int c11), .val (.ref b12), .val (.ref b13), .val (.long (1 : Int64)), .second, .val (.long (if c9 = (0 : Int32) then (0 : Int64) else 0 + 1)), .second, .val (.long p0), .second, .val (.long p0), .second, .val (.long p1), .second, .val (.long p1), .second, .val (.long p0), .second, .val (.long p1), .second, .val (.double (own_ratio p0 p1)), .second] [(.long (p0 / (1000000 : Int64))), (.long (p0 / (1000000 : Int64)))])) _
      refine XS.lcmp X354.here hx rfl (hb hby at_247) rfl ?_
      show Steps p.tables e below (T354.setTop (mkF m 248 #[.val (.long p0), .second, .val (.long p1), .second, .val (.long p2), .second, .val (.long p3), .second, .val (.int p4), .val (.int c9), .val (.int c10), .val (.int c11), .val (.ref b12), .val (.ref b13), .val (.long (1 : Int64)), .second, .val (.long (if c9 = (0 : Int32) then (0 : Int64) else 0 + 1)), .second, .val (.long p0), .second, .val (.long p0), .second, .val (.long p1), .second, .val (.long p1), .second, .val (.long p0), .second, .val (.long p1), .second, .val (.double (own_ratio p0 p1)), .second] [(.int (lcmpW (p0 / (1000000 : Int64)) (p0 / (1000000 : Int64))))])) _
      refine XS.ifNo X354.here hx rfl (hb hby at_248) rfl ((if0 _ _).trans (teq ((lw_eq _ _).mpr rfl)).2) ?_
      show Steps p.tables e below (T354.setTop (mkF m 251 #[.val (.long p0), .second, .val (.long p1), .second, .val (.long p2), .second, .val (.long p3), .second, .val (.int p4), .val (.int c9), .val (.int c10), .val (.int c11), .val (.ref b12), .val (.ref b13), .val (.long (1 : Int64)), .second, .val (.long (if c9 = (0 : Int32) then (0 : Int64) else 0 + 1)), .second, .val (.long p0), .second, .val (.long p0), .second, .val (.long p1), .second, .val (.long p1), .second, .val (.long p0), .second, .val (.long p1), .second, .val (.double (own_ratio p0 p1)), .second] [])) _
      refine XS.aload X354.here hx rfl (hb hby at_251) rfl rfl ?_
      show Steps p.tables e below (T354.setTop (mkF m 253 #[.val (.long p0), .second, .val (.long p1), .second, .val (.long p2), .second, .val (.long p3), .second, .val (.int p4), .val (.int c9), .val (.int c10), .val (.int c11), .val (.ref b12), .val (.ref b13), .val (.long (1 : Int64)), .second, .val (.long (if c9 = (0 : Int32) then (0 : Int64) else 0 + 1)), .second, .val (.long p0), .second, .val (.long p0), .second, .val (.long p1), .second, .val (.long p1), .second, .val (.long p0), .second, .val (.long p1), .second, .val (.double (own_ratio p0 p1)), .second] [(.ref b13)])) _
      refine st355.trans ?_
      show Steps p.tables e below (T355.setTop (mkF m 256 #[.val (.long p0), .second, .val (.long p1), .second, .val (.long p2), .second, .val (.long p3), .second, .val (.int p4), .val (.int c9), .val (.int c10), .val (.int c11), .val (.ref b12), .val (.ref b13), .val (.long (1 : Int64)), .second, .val (.long (if c9 = (0 : Int32) then (0 : Int64) else 0 + 1)), .second, .val (.long p0), .second, .val (.long p0), .second, .val (.long p1), .second, .val (.long p1), .second, .val (.long p0), .second, .val (.long p1), .second, .val (.double (own_ratio p0 p1)), .second] [(.long (p0 / (1000000 : Int64)))])) _
      refine XS.lload X355.here hx rfl (hb hby at_256) rfl ?_
      show Steps p.tables e below (T355.setTop (mkF m 258 #[.val (.long p0), .second, .val (.long p1), .second, .val (.long p2), .second, .val (.long p3), .second, .val (.int p4), .val (.int c9), .val (.int c10), .val (.int c11), .val (.ref b12), .val (.ref b13), .val (.long (1 : Int64)), .second, .val (.long (if c9 = (0 : Int32) then (0 : Int64) else 0 + 1)), .second, .val (.long p0), .second, .val (.long p0), .second, .val (.long p1), .second, .val (.long p1), .second, .val (.long p0), .second, .val (.long p1), .second, .val (.double (own_ratio p0 p1)), .second] [(.long p0), (.long (p0 / (1000000 : Int64)))])) _
      refine X355.ldc2Long hx hown (mvT hZ (hw _ (List.mem_of_getElem? (i := 116) rfl))) (g := (mkF m 258 #[.val (.long p0), .second, .val (.long p1), .second, .val (.long p2), .second, .val (.long p3), .second, .val (.int p4), .val (.int c9), .val (.int c10), .val (.int c11), .val (.ref b12), .val (.ref b13), .val (.long (1 : Int64)), .second, .val (.long (if c9 = (0 : Int32) then (0 : Int64) else 0 + 1)), .second, .val (.long p0), .second, .val (.long p0), .second, .val (.long p1), .second, .val (.long p1), .second, .val (.long p0), .second, .val (.long p1), .second, .val (.double (own_ratio p0 p1)), .second] [(.long p0), (.long (p0 / (1000000 : Int64)))])) rfl (hb hby at_258) _ ?_
      show Steps p.tables e below (T355.setTop (mkF m 261 #[.val (.long p0), .second, .val (.long p1), .second, .val (.long p2), .second, .val (.long p3), .second, .val (.int p4), .val (.int c9), .val (.int c10), .val (.int c11), .val (.ref b12), .val (.ref b13), .val (.long (1 : Int64)), .second, .val (.long (if c9 = (0 : Int32) then (0 : Int64) else 0 + 1)), .second, .val (.long p0), .second, .val (.long p0), .second, .val (.long p1), .second, .val (.long p1), .second, .val (.long p0), .second, .val (.long p1), .second, .val (.double (own_ratio p0 p1)), .second] [(.long (1000000 : Int64)), (.long p0), (.long (p0 / (1000000 : Int64)))])) _
      refine XS.ldiv X355.here hx rfl (hb hby at_261) rfl (by decide) ?_
      show Steps p.tables e below (T355.setTop (mkF m 262 #[.val (.long p0), .second, .val (.long p1), .second, .val (.long p2), .second, .val (.long p3), .second, .val (.int p4), .val (.int c9), .val (.int c10), .val (.int c11), .val (.ref b12), .val (.ref b13), .val (.long (1 : Int64)), .second, .val (.long (if c9 = (0 : Int32) then (0 : Int64) else 0 + 1)), .second, .val (.long p0), .second, .val (.long p0), .second, .val (.long p1), .second, .val (.long p1), .second, .val (.long p0), .second, .val (.long p1), .second, .val (.double (own_ratio p0 p1)), .second] [(.long (p0 / (1000000 : Int64))), (.long (p0 / (1000000 : Int64)))])) _
      refine XS.lcmp X355.here hx rfl (hb hby at_262) rfl ?_
      show Steps p.tables e below (T355.setTop (mkF m 263 #[.val (.long p0), .second, .val (.long p1), .second, .val (.long p2), .second, .val (.long p3), .second, .val (.int p4), .val (.int c9), .val (.int c10), .val (.int c11), .val (.ref b12), .val (.ref b13), .val (.long (1 : Int64)), .second, .val (.long (if c9 = (0 : Int32) then (0 : Int64) else 0 + 1)), .second, .val (.long p0), .second, .val (.long p0), .second, .val (.long p1), .second, .val (.long p1), .second, .val (.long p0), .second, .val (.long p1), .second, .val (.double (own_ratio p0 p1)), .second] [(.int (lcmpW (p0 / (1000000 : Int64)) (p0 / (1000000 : Int64))))])) _
      refine XS.ifNo X355.here hx rfl (hb hby at_263) rfl ((if0 _ _).trans (teq ((lw_eq _ _).mpr rfl)).2) ?_
      show Steps p.tables e below (T355.setTop (mkF m 266 #[.val (.long p0), .second, .val (.long p1), .second, .val (.long p2), .second, .val (.long p3), .second, .val (.int p4), .val (.int c9), .val (.int c10), .val (.int c11), .val (.ref b12), .val (.ref b13), .val (.long (1 : Int64)), .second, .val (.long (if c9 = (0 : Int32) then (0 : Int64) else 0 + 1)), .second, .val (.long p0), .second, .val (.long p0), .second, .val (.long p1), .second, .val (.long p1), .second, .val (.long p0), .second, .val (.long p1), .second, .val (.double (own_ratio p0 p1)), .second] [])) _
      refine XS.aload X355.here hx rfl (hb hby at_266) rfl rfl ?_
      show Steps p.tables e below (T355.setTop (mkF m 268 #[.val (.long p0), .second, .val (.long p1), .second, .val (.long p2), .second, .val (.long p3), .second, .val (.int p4), .val (.int c9), .val (.int c10), .val (.int c11), .val (.ref b12), .val (.ref b13), .val (.long (1 : Int64)), .second, .val (.long (if c9 = (0 : Int32) then (0 : Int64) else 0 + 1)), .second, .val (.long p0), .second, .val (.long p0), .second, .val (.long p1), .second, .val (.long p1), .second, .val (.long p0), .second, .val (.long p1), .second, .val (.double (own_ratio p0 p1)), .second] [(.ref b13)])) _
      refine st356.trans ?_
      show Steps p.tables e below (T356.setTop (mkF m 271 #[.val (.long p0), .second, .val (.long p1), .second, .val (.long p2), .second, .val (.long p3), .second, .val (.int p4), .val (.int c9), .val (.int c10), .val (.int c11), .val (.ref b12), .val (.ref b13), .val (.long (1 : Int64)), .second, .val (.long (if c9 = (0 : Int32) then (0 : Int64) else 0 + 1)), .second, .val (.long p0), .second, .val (.long p0), .second, .val (.long p1), .second, .val (.long p1), .second, .val (.long p0), .second, .val (.long p1), .second, .val (.double (own_ratio p0 p1)), .second] [(.long (p1 / (1000000 : Int64)))])) _
      refine XS.lload X356.here hx rfl (hb hby at_271) rfl ?_
      show Steps p.tables e below (T356.setTop (mkF m 273 #[.val (.long p0), .second, .val (.long p1), .second, .val (.long p2), .second, .val (.long p3), .second, .val (.int p4), .val (.int c9), .val (.int c10), .val (.int c11), .val (.ref b12), .val (.ref b13), .val (.long (1 : Int64)), .second, .val (.long (if c9 = (0 : Int32) then (0 : Int64) else 0 + 1)), .second, .val (.long p0), .second, .val (.long p0), .second, .val (.long p1), .second, .val (.long p1), .second, .val (.long p0), .second, .val (.long p1), .second, .val (.double (own_ratio p0 p1)), .second] [(.long p1), (.long (p1 / (1000000 : Int64)))])) _
      refine X356.ldc2Long hx hown (mvT hZ (hw _ (List.mem_of_getElem? (i := 116) rfl))) (g := (mkF m 273 #[.val (.long p0), .second, .val (.long p1), .second, .val (.long p2), .second, .val (.long p3), .second, .val (.int p4), .val (.int c9), .val (.int c10), .val (.int c11), .val (.ref b12), .val (.ref b13), .val (.long (1 : Int64)), .second, .val (.long (if c9 = (0 : Int32) then (0 : Int64) else 0 + 1)), .second, .val (.long p0), .second, .val (.long p0), .second, .val (.long p1), .second, .val (.long p1), .second, .val (.long p0), .second, .val (.long p1), .second, .val (.double (own_ratio p0 p1)), .second] [(.long p1), (.long (p1 / (1000000 : Int64)))])) rfl (hb hby at_273) _ ?_
      show Steps p.tables e below (T356.setTop (mkF m 276 #[.val (.long p0), .second, .val (.long p1), .second, .val (.long p2), .second, .val (.long p3), .second, .val (.int p4), .val (.int c9), .val (.int c10), .val (.int c11), .val (.ref b12), .val (.ref b13), .val (.long (1 : Int64)), .second, .val (.long (if c9 = (0 : Int32) then (0 : Int64) else 0 + 1)), .second, .val (.long p0), .second, .val (.long p0), .second, .val (.long p1), .second, .val (.long p1), .second, .val (.long p0), .second, .val (.long p1), .second, .val (.double (own_ratio p0 p1)), .second] [(.long (1000000 : Int64)), (.long p1), (.long (p1 / (1000000 : Int64)))])) _
      refine XS.ldiv X356.here hx rfl (hb hby at_276) rfl (by decide) ?_
      show Steps p.tables e below (T356.setTop (mkF m 277 #[.val (.long p0), .second, .val (.long p1), .second, .val (.long p2), .second, .val (.long p3), .second, .val (.int p4), .val (.int c9), .val (.int c10), .val (.int c11), .val (.ref b12), .val (.ref b13), .val (.long (1 : Int64)), .second, .val (.long (if c9 = (0 : Int32) then (0 : Int64) else 0 + 1)), .second, .val (.long p0), .second, .val (.long p0), .second, .val (.long p1), .second, .val (.long p1), .second, .val (.long p0), .second, .val (.long p1), .second, .val (.double (own_ratio p0 p1)), .second] [(.long (p1 / (1000000 : Int64))), (.long (p1 / (1000000 : Int64)))])) _
      refine XS.lcmp X356.here hx rfl (hb hby at_277) rfl ?_
      show Steps p.tables e below (T356.setTop (mkF m 278 #[.val (.long p0), .second, .val (.long p1), .second, .val (.long p2), .second, .val (.long p3), .second, .val (.int p4), .val (.int c9), .val (.int c10), .val (.int c11), .val (.ref b12), .val (.ref b13), .val (.long (1 : Int64)), .second, .val (.long (if c9 = (0 : Int32) then (0 : Int64) else 0 + 1)), .second, .val (.long p0), .second, .val (.long p0), .second, .val (.long p1), .second, .val (.long p1), .second, .val (.long p0), .second, .val (.long p1), .second, .val (.double (own_ratio p0 p1)), .second] [(.int (lcmpW (p1 / (1000000 : Int64)) (p1 / (1000000 : Int64))))])) _
      refine XS.ifNo X356.here hx rfl (hb hby at_278) rfl ((if0 _ _).trans (teq ((lw_eq _ _).mpr rfl)).2) ?_
      show Steps p.tables e below (T356.setTop (mkF m 281 #[.val (.long p0), .second, .val (.long p1), .second, .val (.long p2), .second, .val (.long p3), .second, .val (.int p4), .val (.int c9), .val (.int c10), .val (.int c11), .val (.ref b12), .val (.ref b13), .val (.long (1 : Int64)), .second, .val (.long (if c9 = (0 : Int32) then (0 : Int64) else 0 + 1)), .second, .val (.long p0), .second, .val (.long p0), .second, .val (.long p1), .second, .val (.long p1), .second, .val (.long p0), .second, .val (.long p1), .second, .val (.double (own_ratio p0 p1)), .second] [])) _
      refine XS.aload X356.here hx rfl (hb hby at_281) rfl rfl ?_
      show Steps p.tables e below (T356.setTop (mkF m 283 #[.val (.long p0), .second, .val (.long p1), .second, .val (.long p2), .second, .val (.long p3), .second, .val (.int p4), .val (.int c9), .val (.int c10), .val (.int c11), .val (.ref b12), .val (.ref b13), .val (.long (1 : Int64)), .second, .val (.long (if c9 = (0 : Int32) then (0 : Int64) else 0 + 1)), .second, .val (.long p0), .second, .val (.long p0), .second, .val (.long p1), .second, .val (.long p1), .second, .val (.long p0), .second, .val (.long p1), .second, .val (.double (own_ratio p0 p1)), .second] [(.ref b13)])) _
      refine st357.trans ?_
      show Steps p.tables e below (T357.setTop (mkF m 286 #[.val (.long p0), .second, .val (.long p1), .second, .val (.long p2), .second, .val (.long p3), .second, .val (.int p4), .val (.int c9), .val (.int c10), .val (.int c11), .val (.ref b12), .val (.ref b13), .val (.long (1 : Int64)), .second, .val (.long (if c9 = (0 : Int32) then (0 : Int64) else 0 + 1)), .second, .val (.long p0), .second, .val (.long p0), .second, .val (.long p1), .second, .val (.long p1), .second, .val (.long p0), .second, .val (.long p1), .second, .val (.double (own_ratio p0 p1)), .second] [(.long (p1 / (1000000 : Int64)))])) _
      refine XS.lload X357.here hx rfl (hb hby at_286) rfl ?_
      show Steps p.tables e below (T357.setTop (mkF m 288 #[.val (.long p0), .second, .val (.long p1), .second, .val (.long p2), .second, .val (.long p3), .second, .val (.int p4), .val (.int c9), .val (.int c10), .val (.int c11), .val (.ref b12), .val (.ref b13), .val (.long (1 : Int64)), .second, .val (.long (if c9 = (0 : Int32) then (0 : Int64) else 0 + 1)), .second, .val (.long p0), .second, .val (.long p0), .second, .val (.long p1), .second, .val (.long p1), .second, .val (.long p0), .second, .val (.long p1), .second, .val (.double (own_ratio p0 p1)), .second] [(.long p1), (.long (p1 / (1000000 : Int64)))])) _
      refine X357.ldc2Long hx hown (mvT hZ (hw _ (List.mem_of_getElem? (i := 116) rfl))) (g := (mkF m 288 #[.val (.long p0), .second, .val (.long p1), .second, .val (.long p2), .second, .val (.long p3), .second, .val (.int p4), .val (.int c9), .val (.int c10), .val (.int c11), .val (.ref b12), .val (.ref b13), .val (.long (1 : Int64)), .second, .val (.long (if c9 = (0 : Int32) then (0 : Int64) else 0 + 1)), .second, .val (.long p0), .second, .val (.long p0), .second, .val (.long p1), .second, .val (.long p1), .second, .val (.long p0), .second, .val (.long p1), .second, .val (.double (own_ratio p0 p1)), .second] [(.long p1), (.long (p1 / (1000000 : Int64)))])) rfl (hb hby at_288) _ ?_
      show Steps p.tables e below (T357.setTop (mkF m 291 #[.val (.long p0), .second, .val (.long p1), .second, .val (.long p2), .second, .val (.long p3), .second, .val (.int p4), .val (.int c9), .val (.int c10), .val (.int c11), .val (.ref b12), .val (.ref b13), .val (.long (1 : Int64)), .second, .val (.long (if c9 = (0 : Int32) then (0 : Int64) else 0 + 1)), .second, .val (.long p0), .second, .val (.long p0), .second, .val (.long p1), .second, .val (.long p1), .second, .val (.long p0), .second, .val (.long p1), .second, .val (.double (own_ratio p0 p1)), .second] [(.long (1000000 : Int64)), (.long p1), (.long (p1 / (1000000 : Int64)))])) _
      refine XS.ldiv X357.here hx rfl (hb hby at_291) rfl (by decide) ?_
      show Steps p.tables e below (T357.setTop (mkF m 292 #[.val (.long p0), .second, .val (.long p1), .second, .val (.long p2), .second, .val (.long p3), .second, .val (.int p4), .val (.int c9), .val (.int c10), .val (.int c11), .val (.ref b12), .val (.ref b13), .val (.long (1 : Int64)), .second, .val (.long (if c9 = (0 : Int32) then (0 : Int64) else 0 + 1)), .second, .val (.long p0), .second, .val (.long p0), .second, .val (.long p1), .second, .val (.long p1), .second, .val (.long p0), .second, .val (.long p1), .second, .val (.double (own_ratio p0 p1)), .second] [(.long (p1 / (1000000 : Int64))), (.long (p1 / (1000000 : Int64)))])) _
      refine XS.lcmp X357.here hx rfl (hb hby at_292) rfl ?_
      show Steps p.tables e below (T357.setTop (mkF m 293 #[.val (.long p0), .second, .val (.long p1), .second, .val (.long p2), .second, .val (.long p3), .second, .val (.int p4), .val (.int c9), .val (.int c10), .val (.int c11), .val (.ref b12), .val (.ref b13), .val (.long (1 : Int64)), .second, .val (.long (if c9 = (0 : Int32) then (0 : Int64) else 0 + 1)), .second, .val (.long p0), .second, .val (.long p0), .second, .val (.long p1), .second, .val (.long p1), .second, .val (.long p0), .second, .val (.long p1), .second, .val (.double (own_ratio p0 p1)), .second] [(.int (lcmpW (p1 / (1000000 : Int64)) (p1 / (1000000 : Int64))))])) _
      refine XS.ifNo X357.here hx rfl (hb hby at_293) rfl ((if0 _ _).trans (teq ((lw_eq _ _).mpr rfl)).2) ?_
      show Steps p.tables e below (T357.setTop (mkF m 296 #[.val (.long p0), .second, .val (.long p1), .second, .val (.long p2), .second, .val (.long p3), .second, .val (.int p4), .val (.int c9), .val (.int c10), .val (.int c11), .val (.ref b12), .val (.ref b13), .val (.long (1 : Int64)), .second, .val (.long (if c9 = (0 : Int32) then (0 : Int64) else 0 + 1)), .second, .val (.long p0), .second, .val (.long p0), .second, .val (.long p1), .second, .val (.long p1), .second, .val (.long p0), .second, .val (.long p1), .second, .val (.double (own_ratio p0 p1)), .second] [])) _
      refine XS.aload X357.here hx rfl (hb hby at_296) rfl rfl ?_
      show Steps p.tables e below (T357.setTop (mkF m 298 #[.val (.long p0), .second, .val (.long p1), .second, .val (.long p2), .second, .val (.long p3), .second, .val (.int p4), .val (.int c9), .val (.int c10), .val (.int c11), .val (.ref b12), .val (.ref b13), .val (.long (1 : Int64)), .second, .val (.long (if c9 = (0 : Int32) then (0 : Int64) else 0 + 1)), .second, .val (.long p0), .second, .val (.long p0), .second, .val (.long p1), .second, .val (.long p1), .second, .val (.long p0), .second, .val (.long p1), .second, .val (.double (own_ratio p0 p1)), .second] [(.ref b13)])) _
      refine st358.trans ?_
      show Steps p.tables e below (T358.setTop (mkF m 301 #[.val (.long p0), .second, .val (.long p1), .second, .val (.long p2), .second, .val (.long p3), .second, .val (.int p4), .val (.int c9), .val (.int c10), .val (.int c11), .val (.ref b12), .val (.ref b13), .val (.long (1 : Int64)), .second, .val (.long (if c9 = (0 : Int32) then (0 : Int64) else 0 + 1)), .second, .val (.long p0), .second, .val (.long p0), .second, .val (.long p1), .second, .val (.long p1), .second, .val (.long p0), .second, .val (.long p1), .second, .val (.double (own_ratio p0 p1)), .second] [(.double (own_ratio p0 p1))])) _
      refine XS.dload X358.here hx rfl (hb hby at_301) rfl ?_
      show Steps p.tables e below (T358.setTop (mkF m 303 #[.val (.long p0), .second, .val (.long p1), .second, .val (.long p2), .second, .val (.long p3), .second, .val (.int p4), .val (.int c9), .val (.int c10), .val (.int c11), .val (.ref b12), .val (.ref b13), .val (.long (1 : Int64)), .second, .val (.long (if c9 = (0 : Int32) then (0 : Int64) else 0 + 1)), .second, .val (.long p0), .second, .val (.long p0), .second, .val (.long p1), .second, .val (.long p1), .second, .val (.long p0), .second, .val (.long p1), .second, .val (.double (own_ratio p0 p1)), .second] [(.double (own_ratio p0 p1)), (.double (own_ratio p0 p1))])) _
      refine XS.dcmpS X358.here hx rfl (v := (0 : Int32)) (hb hby at_303) rfl (dcmpV_eq rfl (own_ratioN _ _) _) ?_
      show Steps p.tables e below (T358.setTop (mkF m 304 #[.val (.long p0), .second, .val (.long p1), .second, .val (.long p2), .second, .val (.long p3), .second, .val (.int p4), .val (.int c9), .val (.int c10), .val (.int c11), .val (.ref b12), .val (.ref b13), .val (.long (1 : Int64)), .second, .val (.long (if c9 = (0 : Int32) then (0 : Int64) else 0 + 1)), .second, .val (.long p0), .second, .val (.long p0), .second, .val (.long p1), .second, .val (.long p1), .second, .val (.long p0), .second, .val (.long p1), .second, .val (.double (own_ratio p0 p1)), .second] [(.int (0 : Int32))])) _
      refine XS.ifNo X358.here hx rfl (hb hby at_304) rfl ((if0 _ _).trans (teq rfl).2) ?_
      show Steps p.tables e below (T358.setTop (mkF m 307 #[.val (.long p0), .second, .val (.long p1), .second, .val (.long p2), .second, .val (.long p3), .second, .val (.int p4), .val (.int c9), .val (.int c10), .val (.int c11), .val (.ref b12), .val (.ref b13), .val (.long (1 : Int64)), .second, .val (.long (if c9 = (0 : Int32) then (0 : Int64) else 0 + 1)), .second, .val (.long p0), .second, .val (.long p0), .second, .val (.long p1), .second, .val (.long p1), .second, .val (.long p0), .second, .val (.long p1), .second, .val (.double (own_ratio p0 p1)), .second] [])) _
      refine XS.iconst X358.here hx rfl (hb hby at_307) ?_
      show Steps p.tables e below (T358.setTop (mkF m 308 #[.val (.long p0), .second, .val (.long p1), .second, .val (.long p2), .second, .val (.long p3), .second, .val (.int p4), .val (.int c9), .val (.int c10), .val (.int c11), .val (.ref b12), .val (.ref b13), .val (.long (1 : Int64)), .second, .val (.long (if c9 = (0 : Int32) then (0 : Int64) else 0 + 1)), .second, .val (.long p0), .second, .val (.long p0), .second, .val (.long p1), .second, .val (.long p1), .second, .val (.long p0), .second, .val (.long p1), .second, .val (.double (own_ratio p0 p1)), .second] [(.int (1 : Int32))])) _
      refine XS.goto X358.here hx rfl (pc0 := 308) (pc' := 312) rfl (hb hby at_308) (by decide) (by decide) ?_
      show Steps p.tables e below (T358.setTop (mkF m 312 #[.val (.long p0), .second, .val (.long p1), .second, .val (.long p2), .second, .val (.long p3), .second, .val (.int p4), .val (.int c9), .val (.int c10), .val (.int c11), .val (.ref b12), .val (.ref b13), .val (.long (1 : Int64)), .second, .val (.long (if c9 = (0 : Int32) then (0 : Int64) else 0 + 1)), .second, .val (.long p0), .second, .val (.long p0), .second, .val (.long p1), .second, .val (.long p1), .second, .val (.long p0), .second, .val (.long p1), .second, .val (.double (own_ratio p0 p1)), .second] [(.int (1 : Int32))])) _
      exact retN X358 hx (t := .boolean) hret0 (by simp) (hb hby at_312) hr
    · show Q0 n0 _ T358.heap _
      rw [eh358]
      exact ⟨rfl, N358⟩
  · skip
    obtain ⟨T359, h359, lc359, b12, xh, xb, kh, kb, X359, e359, E359, N359, HH, st359⟩ : ∃ (T359 : State) (h359 : Heap) (lc359 : List Loc) (b12 : Addr) (xh : Addr) (xb : Addr) (kh : ClassId) (kb : ClassId), Stand p l e room_1 s m args below meth c T359 lc359 3 2052 ∧ T359.heap = h359 ∧ Ext h0 h359 ∧ Fr n0 lc359 ∧ (own_Hist Z h359 b12 xh xb kh kb p0 p2 p1 p3 2 (if c10 = (0 : Int32) then (if c9 = (0 : Int32) then (0 : Int64) else 0 + 1) else (if c9 = (0 : Int32) then (0 : Int64) else 0 + 1) + 1)) ∧ ∀ target, Steps p.tables e below (T359.setTop (mkF m 76 #[.val (.long p0), .second, .val (.long p1), .second, .val (.long p2), .second, .val (.long p3), .second, .val (.int p4), .val (.int c9), .val (.int c10), .val (.int c11), .val (.ref b12), .unset, .unset, .unset, .unset, .unset, .unset, .unset, .unset, .unset, .unset, .unset, .unset, .unset, .unset, .unset, .unset, .unset, .unset, .unset] [])) target → Steps p.tables e below (s₁.setTop (mkF m 42 #[.val (.long p0), .second, .val (.long p1), .second, .val (.long p2), .second, .val (.long p3), .second, .val (.int p4), .val (.int c9), .val (.int c10), .val (.int c11), .unset, .unset, .unset, .unset, .unset, .unset, .unset, .unset, .unset, .unset, .unset, .unset, .unset, .unset, .unset, .unset, .unset, .unset, .unset, .unset] [])) target := by
      obtain ⟨T360, h360, X360, e360, E360, A360, D360, -, st360⟩ := newO X0 hx hZ hown (hw _ (List.mem_of_getElem? (i := 0) rfl)) (hw _ (List.mem_of_getElem? (i := 1) rfl)) (hw _ (List.mem_of_getElem? (i := 2) rfl)) e0 (g := (mkF m 42 #[.val (.long p0), .second, .val (.long p1), .second, .val (.long p2), .second, .val (.long p3), .second, .val (.int p4), .val (.int c9), .val (.int c10), .val (.int c11), .unset, .unset, .unset, .unset, .unset, .unset, .unset, .unset, .unset, .unset, .unset, .unset, .unset, .unset, .unset, .unset, .unset, .unset, .unset, .unset] [])) rfl (hb hby at_42) (by decide) (by decide)
      obtain ⟨b360, g360⟩ : ∃ z, z = h0.size := ⟨_, rfl⟩
      rw [← g360] at A360 D360 st360
      have ge_b360 : n0 ≤ b360 := Nat.le_trans Z0 (Nat.le_of_eq g360.symm)
      have sz_b360 : h0.size ≤ b360 := Nat.le_trans (Keep.refl h0 []).1 (Nat.le_of_eq g360.symm)
      have Z361 : n0 ≤ h360.size := Nat.le_trans Z0 E360.1
      have K362 : Keep h0 h360 [] := (Keep.refl h0 []).ext E360
      obtain ⟨v363, vmx363, ⟨T363, L363, k363, n363⟩, -, X363, ⟨Lc363, hQ363, l363, y363, z363⟩, st363⟩ := X360.specialBack hx (y := (⟨"com/example/nosy_pool/nosypool/CheckoutHistory", "<init>", "()V"⟩ : MethodName)) rfl hown (mvT hZ (hw _ (List.mem_of_getElem? (i := 3) rfl))) (mvT hZ (hw _ (List.mem_of_getElem? (i := 4) rfl))) (mvT hZ (hw _ (List.mem_of_getElem? (i := 5) rfl))) (by decide) (backOf (W := 1) (rmI1 l Z a0 hw [] b360 _ _ _ _ h360 n0 Z361 ge_b360 ⟨A360, (D360 (Or.inr (hw _ (List.mem_of_getElem? (i := 14) rfl))) (ty := (.array .long)) (by decide)), (D360 (Or.inr (hw _ (List.mem_of_getElem? (i := 16) rfl))) (ty := (.array .long)) (by decide)), (D360 (Or.inl (hw _ (List.mem_of_getElem? (i := 18) rfl))) (ty := .long) (by decide)), (D360 (Or.inl (hw _ (List.mem_of_getElem? (i := 20) rfl))) (ty := .long) (by decide))⟩) hZ (hw _ (List.mem_of_getElem? (i := 5) rfl)) (hw _ (List.mem_of_getElem? (i := 2) rfl)) (by decide) (by decide)) (g := (mkF m 46 #[.val (.long p0), .second, .val (.long p1), .second, .val (.long p2), .second, .val (.long p3), .second, .val (.int p4), .val (.int c9), .val (.int c10), .val (.int c11), .unset, .unset, .unset, .unset, .unset, .unset, .unset, .unset, .unset, .unset, .unset, .unset, .unset, .unset, .unset, .unset, .unset, .unset, .unset, .unset] [(.ref b360), (.ref b360)])) rfl (by rw [hml]; rfl) (Steps.refl _) (a := b360) (argsL := []) (rest := [(.ref b360)]) (lenOf own_pd6 rfl) rfl (by show 2 * 0 + _ ≤ _; exact Nat.le_of_eq rfl) (hb hby at_46) (fun _ _ => ⟨rfl, e360, (by decide : 1 + 2 ≤ _), (by decide : 4 + 2048 ≤ _)⟩)
      dsimp only [Pt.U, Pt.locs, Pt.cells, Pt.slots] at X363 l363 y363 z363 st363 hQ363
      subst l363 y363 z363
      obtain ⟨rfl, Nq363, K363, xh, xb, kh, kb, s1, s2, HH363⟩ := hQ363
      have N363 := Fr.app N0 Nq363
      have sz_xh : h0.size ≤ xh := Nat.le_trans K362.1 s1
      have sz_xb : h0.size ≤ xb := Nat.le_trans K362.1 s2
      have ge_xh : n0 ≤ xh := Nat.le_trans Z361 s1
      have ge_xb : n0 ≤ xb := Nat.le_trans Z361 s2
      have Z364 : n0 ≤ T363.heap.size := Nat.le_trans Z361 K363.1
      have K365 : Keep h0 T363.heap [] := K362.trans K363 (allS (Or.inr sz_b360) all0)
      obtain ⟨cq366, kq366, q366a, q366b, q366c⟩ := isOf hZ rfl HH363.1.1
      obtain ⟨v366, vmx366, ⟨T366, L366, k366, n366⟩, -, X366, ⟨Lc366, hQ366, l366, y366, z366⟩, st366⟩ := X363.virtualBack hx (y := (⟨"com/example/nosy_pool/nosypool/CheckoutHistory", "record", "(JJZ)V"⟩ : MethodName)) (z := (⟨"com/example/nosy_pool/nosypool/CheckoutHistory", "record", "(JJZ)V"⟩ : MethodName)) hown (mvT hZ (hw _ (List.mem_of_getElem? (i := 21) rfl))) (mvT hZ (hw _ (List.mem_of_getElem? (i := 22) rfl))) (notFace_of_selects (args := #[]) (mvT hZ (hw _ (List.mem_of_getElem? (i := 24) rfl)))) (mvT hZ (hw _ (List.mem_of_getElem? (i := 24) rfl))) (mvT hZ (hw _ (List.mem_of_getElem? (i := 23) rfl))) (by decide) (backOf (W := 0) (rmRec0 l Z a0 hw [] b360 xh xb kh kb 0 0 0 0 0 p0 p1 c9 T363.heap n0 Z364 ge_b360 ge_xh ge_xb HH363) hZ (hw _ (List.mem_of_getElem? (i := 25) rfl)) (hw _ (List.mem_of_getElem? (i := 2) rfl)) (by decide) (by decide)) q366a q366c (g := (mkF m 57 #[.val (.long p0), .second, .val (.long p1), .second, .val (.long p2), .second, .val (.long p3), .second, .val (.int p4), .val (.int c9), .val (.int c10), .val (.int c11), .val (.ref b360), .unset, .unset, .unset, .unset, .unset, .unset, .unset, .unset, .unset, .unset, .unset, .unset, .unset, .unset, .unset, .unset, .unset, .unset, .unset] [(.int c9), (.long p1), (.long p0), (.ref b360)])) rfl (by rw [hml]; rfl) (Steps.refl _) (argsL := [(.long p0), (.long p1), (.int c9)]) (rest := []) (lenOf own_pd12 rfl) rfl (by show 2 * 0 + _ ≤ _; exact Nat.le_of_eq rfl) (hb hby at_57) (fun _ _ => ⟨rfl, rfl, (by decide : 3 + 0 ≤ _), (by decide : 2052 + 0 ≤ _)⟩)
      dsimp only [Pt.U, Pt.locs, Pt.cells, Pt.slots] at X366 l366 y366 z366 st366 hQ366
      subst l366 y366 z366
      obtain ⟨rfl, Nq366, K366, HH366⟩ := hQ366
      have N366 := Fr.app N363 Nq366
      have Z367 : n0 ≤ T366.heap.size := Nat.le_trans Z364 K366.1
      have K368 : Keep h0 T366.heap [] := K365.trans K366 (allS (Or.inr sz_b360) (allS (Or.inr sz_xh) (allS (Or.inr sz_xb) all0)))
      obtain ⟨cq369, kq369, q369a, q369b, q369c⟩ := isOf hZ rfl HH366.1.1
      obtain ⟨v369, vmx369, ⟨T369, L369, k369, n369⟩, -, X369, ⟨Lc369, hQ369, l369, y369, z369⟩, st369⟩ := X366.virtualBack hx (y := (⟨"com/example/nosy_pool/nosypool/CheckoutHistory", "record", "(JJZ)V"⟩ : MethodName)) (z := (⟨"com/example/nosy_pool/nosypool/CheckoutHistory", "record", "(JJZ)V"⟩ : MethodName)) hown (mvT hZ (hw _ (List.mem_of_getElem? (i := 21) rfl))) (mvT hZ (hw _ (List.mem_of_getElem? (i := 22) rfl))) (notFace_of_selects (args := #[]) (mvT hZ (hw _ (List.mem_of_getElem? (i := 24) rfl)))) (mvT hZ (hw _ (List.mem_of_getElem? (i := 24) rfl))) (mvT hZ (hw _ (List.mem_of_getElem? (i := 23) rfl))) (by decide) (backOf (W := 0) (rmRec1 l Z a0 hw [] b360 xh xb kh kb p0 0 p1 0 (if c9 = (0 : Int32) then (0 : Int64) else 0 + 1) p2 p3 c10 T366.heap n0 Z367 ge_b360 ge_xh ge_xb HH366) hZ (hw _ (List.mem_of_getElem? (i := 25) rfl)) (hw _ (List.mem_of_getElem? (i := 2) rfl)) (by decide) (by decide)) q369a q369c (g := (mkF m 73 #[.val (.long p0), .second, .val (.long p1), .second, .val (.long p2), .second, .val (.long p3), .second, .val (.int p4), .val (.int c9), .val (.int c10), .val (.int c11), .val (.ref b360), .unset, .unset, .unset, .unset, .unset, .unset, .unset, .unset, .unset, .unset, .unset, .unset, .unset, .unset, .unset, .unset, .unset, .unset, .unset] [(.int c10), (.long p3), (.long p2), (.ref b360)])) rfl (by rw [hml]; rfl) (Steps.refl _) (argsL := [(.long p2), (.long p3), (.int c10)]) (rest := []) (lenOf own_pd12 rfl) rfl (by show 2 * 0 + _ ≤ _; exact Nat.le_of_eq rfl) (hb hby at_73) (fun _ _ => ⟨rfl, rfl, (by decide : 3 + 0 ≤ _), (by decide : 2052 + 0 ≤ _)⟩)
      dsimp only [Pt.U, Pt.locs, Pt.cells, Pt.slots] at X369 l369 y369 z369 st369 hQ369
      subst l369 y369 z369
      obtain ⟨rfl, Nq369, K369, HH369⟩ := hQ369
      have N369 := Fr.app N366 Nq369
      have Z370 : n0 ≤ T369.heap.size := Nat.le_trans Z367 K369.1
      have K371 : Keep h0 T369.heap [] := K368.trans K369 (allS (Or.inr sz_b360) (allS (Or.inr sz_xh) (allS (Or.inr sz_xb) all0)))
      refine ⟨T369, _, _, b360, xh, xb, kh, kb, own_up X369 (by decide) (by decide), rfl, own_ext K371, N369, HH369, fun target hk => ?_⟩
      show Steps p.tables e below (s₁.setTop (mkF m 42 #[.val (.long p0), .second, .val (.long p1), .second, .val (.long p2), .second, .val (.long p3), .second, .val (.int p4), .val (.int c9), .val (.int c10), .val (.int c11), .unset, .unset, .unset, .unset, .unset, .unset, .unset, .unset, .unset, .unset, .unset, .unset, .unset, .unset, .unset, .unset, .unset, .unset, .unset, .unset] [])) _
      refine st360 _ ?_
      show Steps p.tables e below (T360.setTop (mkF m 45 #[.val (.long p0), .second, .val (.long p1), .second, .val (.long p2), .second, .val (.long p3), .second, .val (.int p4), .val (.int c9), .val (.int c10), .val (.int c11), .unset, .unset, .unset, .unset, .unset, .unset, .unset, .unset, .unset, .unset, .unset, .unset, .unset, .unset, .unset, .unset, .unset, .unset, .unset, .unset] [(.ref b360)])) _
      refine XS.dup X360.here hx rfl (hb hby at_45) rfl rfl ?_
      show Steps p.tables e below (T360.setTop (mkF m 46 #[.val (.long p0), .second, .val (.long p1), .second, .val (.long p2), .second, .val (.long p3), .second, .val (.int p4), .val (.int c9), .val (.int c10), .val (.int c11), .unset, .unset, .unset, .unset, .unset, .unset, .unset, .unset, .unset, .unset, .unset, .unset, .unset, .unset, .unset, .unset, .unset, .unset, .unset, .unset] [(.ref b360), (.ref b360)])) _
      refine st363.trans ?_
      show Steps p.tables e below (T363.setTop (mkF m 49 #[.val (.long p0), .second, .val (.long p1), .second, .val (.long p2), .second, .val (.long p3), .second, .val (.int p4), .val (.int c9), .val (.int c10), .val (.int c11), .unset, .unset, .unset, .unset, .unset, .unset, .unset, .unset, .unset, .unset, .unset, .unset, .unset, .unset, .unset, .unset, .unset, .unset, .unset, .unset] [(.ref b360)])) _
      refine XS.astore X363.here hx rfl (hb hby at_49) rfl rfl (l' := #[.val (.long p0), .second, .val (.long p1), .second, .val (.long p2), .second, .val (.long p3), .second, .val (.int p4), .val (.int c9), .val (.int c10), .val (.int c11), .val (.ref b360), .unset, .unset, .unset, .unset, .unset, .unset, .unset, .unset, .unset, .unset, .unset, .unset, .unset, .unset, .unset, .unset, .unset, .unset, .unset]) rfl ?_
      show Steps p.tables e below (T363.setTop (mkF m 51 #[.val (.long p0), .second, .val (.long p1), .second, .val (.long p2), .second, .val (.long p3), .second, .val (.int p4), .val (.int c9), .val (.int c10), .val (.int c11), .val (.ref b360), .unset, .unset, .unset, .unset, .unset, .unset, .unset, .unset, .unset, .unset, .unset, .unset, .unset, .unset, .unset, .unset, .unset, .unset, .unset] [])) _
      refine XS.aload X363.here hx rfl (hb hby at_51) rfl rfl ?_
      show Steps p.tables e below (T363.setTop (mkF m 53 #[.val (.long p0), .second, .val (.long p1), .second, .val (.long p2), .second, .val (.long p3), .second, .val (.int p4), .val (.int c9), .val (.int c10), .val (.int c11), .val (.ref b360), .unset, .unset, .unset, .unset, .unset, .unset, .unset, .unset, .unset, .unset, .unset, .unset, .unset, .unset, .unset, .unset, .unset, .unset, .unset] [(.ref b360)])) _
      refine XS.lloadN X363.here hx rfl (hb hby at_53) rfl ?_
      show Steps p.tables e below (T363.setTop (mkF m 54 #[.val (.long p0), .second, .val (.long p1), .second, .val (.long p2), .second, .val (.long p3), .second, .val (.int p4), .val (.int c9), .val (.int c10), .val (.int c11), .val (.ref b360), .unset, .unset, .unset, .unset, .unset, .unset, .unset, .unset, .unset, .unset, .unset, .unset, .unset, .unset, .unset, .unset, .unset, .unset, .unset] [(.long p0), (.ref b360)])) _
      refine XS.lloadN X363.here hx rfl (hb hby at_54) rfl ?_
      show Steps p.tables e below (T363.setTop (mkF m 55 #[.val (.long p0), .second, .val (.long p1), .second, .val (.long p2), .second, .val (.long p3), .second, .val (.int p4), .val (.int c9), .val (.int c10), .val (.int c11), .val (.ref b360), .unset, .unset, .unset, .unset, .unset, .unset, .unset, .unset, .unset, .unset, .unset, .unset, .unset, .unset, .unset, .unset, .unset, .unset, .unset] [(.long p1), (.long p0), (.ref b360)])) _
      refine XS.iload X363.here hx rfl (hb hby at_55) rfl ?_
      show Steps p.tables e below (T363.setTop (mkF m 57 #[.val (.long p0), .second, .val (.long p1), .second, .val (.long p2), .second, .val (.long p3), .second, .val (.int p4), .val (.int c9), .val (.int c10), .val (.int c11), .val (.ref b360), .unset, .unset, .unset, .unset, .unset, .unset, .unset, .unset, .unset, .unset, .unset, .unset, .unset, .unset, .unset, .unset, .unset, .unset, .unset] [(.int c9), (.long p1), (.long p0), (.ref b360)])) _
      refine st366.trans ?_
      show Steps p.tables e below (T366.setTop (mkF m 60 #[.val (.long p0), .second, .val (.long p1), .second, .val (.long p2), .second, .val (.long p3), .second, .val (.int p4), .val (.int c9), .val (.int c10), .val (.int c11), .val (.ref b360), .unset, .unset, .unset, .unset, .unset, .unset, .unset, .unset, .unset, .unset, .unset, .unset, .unset, .unset, .unset, .unset, .unset, .unset, .unset] [])) _
      refine XS.iload X366.here hx rfl (hb hby at_60) rfl ?_
      show Steps p.tables e below (T366.setTop (mkF m 62 #[.val (.long p0), .second, .val (.long p1), .second, .val (.long p2), .second, .val (.long p3), .second, .val (.int p4), .val (.int c9), .val (.int c10), .val (.int c11), .val (.ref b360), .unset, .unset, .unset, .unset, .unset, .unset, .unset, .unset, .unset, .unset, .unset, .unset, .unset, .unset, .unset, .unset, .unset, .unset, .unset] [(.int c11)])) _
      refine XS.ifNo X366.here hx rfl (hb hby at_62) rfl ((if0 _ _).trans (feq hc11).1) ?_
      show Steps p.tables e below (T366.setTop (mkF m 65 #[.val (.long p0), .second, .val (.long p1), .second, .val (.long p2), .second, .val (.long p3), .second, .val (.int p4), .val (.int c9), .val (.int c10), .val (.int c11), .val (.ref b360), .unset, .unset, .unset, .unset, .unset, .unset, .unset, .unset, .unset, .unset, .unset, .unset, .unset, .unset, .unset, .unset, .unset, .unset, .unset] [])) _
      refine XS.aload X366.here hx rfl (hb hby at_65) rfl rfl ?_
      show Steps p.tables e below (T366.setTop (mkF m 67 #[.val (.long p0), .second, .val (.long p1), .second, .val (.long p2), .second, .val (.long p3), .second, .val (.int p4), .val (.int c9), .val (.int c10), .val (.int c11), .val (.ref b360), .unset, .unset, .unset, .unset, .unset, .unset, .unset, .unset, .unset, .unset, .unset, .unset, .unset, .unset, .unset, .unset, .unset, .unset, .unset] [(.ref b360)])) _
      refine XS.lload X366.here hx rfl (hb hby at_67) rfl ?_
      show Steps p.tables e below (T366.setTop (mkF m 69 #[.val (.long p0), .second, .val (.long p1), .second, .val (.long p2), .second, .val (.long p3), .second, .val (.int p4), .val (.int c9), .val (.int c10), .val (.int c11), .val (.ref b360), .unset, .unset, .unset, .unset, .unset, .unset, .unset, .unset, .unset, .unset, .unset, .unset, .unset, .unset, .unset, .unset, .unset, .unset, .unset] [(.long p2), (.ref b360)])) _
      refine XS.lload X366.here hx rfl (hb hby at_69) rfl ?_
      show Steps p.tables e below (T366.setTop (mkF m 71 #[.val (.long p0), .second, .val (.long p1), .second, .val (.long p2), .second, .val (.long p3), .second, .val (.int p4), .val (.int c9), .val (.int c10), .val (.int c11), .val (.ref b360), .unset, .unset, .unset, .unset, .unset, .unset, .unset, .unset, .unset, .unset, .unset, .unset, .unset, .unset, .unset, .unset, .unset, .unset, .unset] [(.long p3), (.long p2), (.ref b360)])) _
      refine XS.iload X366.here hx rfl (hb hby at_71) rfl ?_
      show Steps p.tables e below (T366.setTop (mkF m 73 #[.val (.long p0), .second, .val (.long p1), .second, .val (.long p2), .second, .val (.long p3), .second, .val (.int p4), .val (.int c9), .val (.int c10), .val (.int c11), .val (.ref b360), .unset, .unset, .unset, .unset, .unset, .unset, .unset, .unset, .unset, .unset, .unset, .unset, .unset, .unset, .unset, .unset, .unset, .unset, .unset] [(.int c10), (.long p3), (.long p2), (.ref b360)])) _
      refine st369.trans ?_
      exact hk
    have Z372 : n0 ≤ h359.size := Nat.le_trans Z0 E359.1
    have K373 : Keep h0 h359 [] := (Keep.refl h0 []).ext E359
    have f374 := (X00.ext E359)
    obtain ⟨cq375, kq375, q375a, q375b, q375c⟩ := isOf hZ e359 HH.1.1
    obtain ⟨v375, vmx375, ⟨T375, L375, k375, n375⟩, -, X375, ⟨Lc375, hQ375, l375, y375, z375⟩, st375⟩ := X359.virtualBack hx (y := (⟨"com/example/nosy_pool/nosypool/CheckoutHistory", "statistics", "()Lcom/example/nosy_pool/nosypool/CheckoutStatistics;"⟩ : MethodName)) (z := (⟨"com/example/nosy_pool/nosypool/CheckoutHistory", "statistics", "()Lcom/example/nosy_pool/nosypool/CheckoutStatistics;"⟩ : MethodName)) hown (mvT hZ (hw _ (List.mem_of_getElem? (i := 27) rfl))) (mvT hZ (hw _ (List.mem_of_getElem? (i := 28) rfl))) (notFace_of_selects (args := #[]) (mvT hZ (hw _ (List.mem_of_getElem? (i := 30) rfl)))) (mvT hZ (hw _ (List.mem_of_getElem? (i := 30) rfl))) (mvT hZ (hw _ (List.mem_of_getElem? (i := 29) rfl))) (by decide) (backOf (W := 0) (rmSt2 l Z a0 hw [] b12 xh xb kh kb p0 p2 p1 p3 (if c10 = (0 : Int32) then (if c9 = (0 : Int32) then (0 : Int64) else 0 + 1) else (if c9 = (0 : Int32) then (0 : Int64) else 0 + 1) + 1) tu h359 n0 Z372 HH O6 ET FT1 FT2 f374) hZ (hw _ (List.mem_of_getElem? (i := 31) rfl)) (hw _ (List.mem_of_getElem? (i := 2) rfl)) (by decide) (by decide)) q375a q375c (g := (mkF m 78 #[.val (.long p0), .second, .val (.long p1), .second, .val (.long p2), .second, .val (.long p3), .second, .val (.int p4), .val (.int c9), .val (.int c10), .val (.int c11), .val (.ref b12), .unset, .unset, .unset, .unset, .unset, .unset, .unset, .unset, .unset, .unset, .unset, .unset, .unset, .unset, .unset, .unset, .unset, .unset, .unset] [(.ref b12)])) rfl (by rw [hml]; rfl) (Steps.refl _) (argsL := []) (rest := []) (lenOf own_pd13 rfl) rfl (by show 2 * 0 + _ ≤ _; exact Nat.le_of_eq rfl) (hb hby at_78) (fun _ _ => ⟨rfl, e359, (by decide : 3 + 3 ≤ _), (by decide : 2052 + 11 ≤ _)⟩)
    dsimp only [Pt.U, Pt.locs, Pt.cells, Pt.slots] at X375 l375 y375 z375 st375 hQ375
    subst l375 y375 z375
    obtain ⟨b13, rfl, Nq375, E375, F13⟩ := hQ375
    have N375 := Fr.app N359 Nq375
    have Z376 : n0 ≤ T375.heap.size := Nat.le_trans Z372 E375.1
    have K377 : Keep h0 T375.heap [] := K373.ext E375
    have st378 : ∀ target, Steps p.tables e below (T375.setTop (mkF m 125 #[.val (.long p0), .second, .val (.long p1), .second, .val (.long p2), .second, .val (.long p3), .second, .val (.int p4), .val (.int c9), .val (.int c10), .val (.int c11), .val (.ref b12), .val (.ref b13), .val (.long (2 : Int64)), .second, .val (.long (if c10 = (0 : Int32) then (if c9 = (0 : Int32) then (0 : Int64) else 0 + 1) else (if c9 = (0 : Int32) then (0 : Int64) else 0 + 1) + 1)), .second, .unset, .unset, .unset, .unset, .unset, .unset, .unset, .unset, .unset, .unset, .unset, .unset, .unset, .unset] [])) target → Steps p.tables e below (T375.setTop (mkF m 97 #[.val (.long p0), .second, .val (.long p1), .second, .val (.long p2), .second, .val (.long p3), .second, .val (.int p4), .val (.int c9), .val (.int c10), .val (.int c11), .val (.ref b12), .val (.ref b13), .val (.long (2 : Int64)), .second, .unset, .unset, .unset, .unset, .unset, .unset, .unset, .unset, .unset, .unset, .unset, .unset, .unset, .unset, .unset, .unset] [])) target := by
      by_cases q9 : c9 = (0 : Int32)
      · skip
        by_cases q10 : c10 = (0 : Int32)
        · skip
          have er : (if c10 = (0 : Int32) then (if c9 = (0 : Int32) then (0 : Int64) else 0 + 1) else (if c9 = (0 : Int32) then (0 : Int64) else 0 + 1) + 1) = ((0 : Int64) + (0 : Int64)) := by rw [if_pos q10, if_pos q9] <;> decide
          rw [er]
          intro target hk
          show Steps p.tables e below (T375.setTop (mkF m 97 #[.val (.long p0), .second, .val (.long p1), .second, .val (.long p2), .second, .val (.long p3), .second, .val (.int p4), .val (.int c9), .val (.int c10), .val (.int c11), .val (.ref b12), .val (.ref b13), .val (.long (2 : Int64)), .second, .unset, .unset, .unset, .unset, .unset, .unset, .unset, .unset, .unset, .unset, .unset, .unset, .unset, .unset, .unset, .unset] [])) _
          refine XS.iload X375.here hx rfl (hb hby at_97) rfl ?_
          show Steps p.tables e below (T375.setTop (mkF m 99 #[.val (.long p0), .second, .val (.long p1), .second, .val (.long p2), .second, .val (.long p3), .second, .val (.int p4), .val (.int c9), .val (.int c10), .val (.int c11), .val (.ref b12), .val (.ref b13), .val (.long (2 : Int64)), .second, .unset, .unset, .unset, .unset, .unset, .unset, .unset, .unset, .unset, .unset, .unset, .unset, .unset, .unset, .unset, .unset] [(.int c9)])) _
          refine XS.ifYes X375.here hx rfl (pc0 := 99) (pc' := 106) rfl (hb hby at_99) rfl ((if0 _ _).trans (teq q9).1) (by decide) (by decide) ?_
          show Steps p.tables e below (T375.setTop (mkF m 106 #[.val (.long p0), .second, .val (.long p1), .second, .val (.long p2), .second, .val (.long p3), .second, .val (.int p4), .val (.int c9), .val (.int c10), .val (.int c11), .val (.ref b12), .val (.ref b13), .val (.long (2 : Int64)), .second, .unset, .unset, .unset, .unset, .unset, .unset, .unset, .unset, .unset, .unset, .unset, .unset, .unset, .unset, .unset, .unset] [])) _
          refine XS.lconst X375.here hx rfl (hb hby at_106) ?_
          show Steps p.tables e below (T375.setTop (mkF m 107 #[.val (.long p0), .second, .val (.long p1), .second, .val (.long p2), .second, .val (.long p3), .second, .val (.int p4), .val (.int c9), .val (.int c10), .val (.int c11), .val (.ref b12), .val (.ref b13), .val (.long (2 : Int64)), .second, .unset, .unset, .unset, .unset, .unset, .unset, .unset, .unset, .unset, .unset, .unset, .unset, .unset, .unset, .unset, .unset] [(.long (0 : Int64))])) _
          refine XS.iload X375.here hx rfl (hb hby at_107) rfl ?_
          show Steps p.tables e below (T375.setTop (mkF m 109 #[.val (.long p0), .second, .val (.long p1), .second, .val (.long p2), .second, .val (.long p3), .second, .val (.int p4), .val (.int c9), .val (.int c10), .val (.int c11), .val (.ref b12), .val (.ref b13), .val (.long (2 : Int64)), .second, .unset, .unset, .unset, .unset, .unset, .unset, .unset, .unset, .unset, .unset, .unset, .unset, .unset, .unset, .unset, .unset] [(.int c11), (.long (0 : Int64))])) _
          refine XS.ifNo X375.here hx rfl (hb hby at_109) rfl ((if0 _ _).trans (feq hc11).1) ?_
          show Steps p.tables e below (T375.setTop (mkF m 112 #[.val (.long p0), .second, .val (.long p1), .second, .val (.long p2), .second, .val (.long p3), .second, .val (.int p4), .val (.int c9), .val (.int c10), .val (.int c11), .val (.ref b12), .val (.ref b13), .val (.long (2 : Int64)), .second, .unset, .unset, .unset, .unset, .unset, .unset, .unset, .unset, .unset, .unset, .unset, .unset, .unset, .unset, .unset, .unset] [(.long (0 : Int64))])) _
          refine XS.iload X375.here hx rfl (hb hby at_112) rfl ?_
          show Steps p.tables e below (T375.setTop (mkF m 114 #[.val (.long p0), .second, .val (.long p1), .second, .val (.long p2), .second, .val (.long p3), .second, .val (.int p4), .val (.int c9), .val (.int c10), .val (.int c11), .val (.ref b12), .val (.ref b13), .val (.long (2 : Int64)), .second, .unset, .unset, .unset, .unset, .unset, .unset, .unset, .unset, .unset, .unset, .unset, .unset, .unset, .unset, .unset, .unset] [(.int c10), (.long (0 : Int64))])) _
          refine XS.ifYes X375.here hx rfl (pc0 := 114) (pc' := 121) rfl (hb hby at_114) rfl ((if0 _ _).trans (teq q10).1) (by decide) (by decide) ?_
          show Steps p.tables e below (T375.setTop (mkF m 121 #[.val (.long p0), .second, .val (.long p1), .second, .val (.long p2), .second, .val (.long p3), .second, .val (.int p4), .val (.int c9), .val (.int c10), .val (.int c11), .val (.ref b12), .val (.ref b13), .val (.long (2 : Int64)), .second, .unset, .unset, .unset, .unset, .unset, .unset, .unset, .unset, .unset, .unset, .unset, .unset, .unset, .unset, .unset, .unset] [(.long (0 : Int64))])) _
          refine XS.lconst X375.here hx rfl (hb hby at_121) ?_
          show Steps p.tables e below (T375.setTop (mkF m 122 #[.val (.long p0), .second, .val (.long p1), .second, .val (.long p2), .second, .val (.long p3), .second, .val (.int p4), .val (.int c9), .val (.int c10), .val (.int c11), .val (.ref b12), .val (.ref b13), .val (.long (2 : Int64)), .second, .unset, .unset, .unset, .unset, .unset, .unset, .unset, .unset, .unset, .unset, .unset, .unset, .unset, .unset, .unset, .unset] [(.long (0 : Int64)), (.long (0 : Int64))])) _
          refine XS.ladd X375.here hx rfl (hb hby at_122) rfl ?_
          show Steps p.tables e below (T375.setTop (mkF m 123 #[.val (.long p0), .second, .val (.long p1), .second, .val (.long p2), .second, .val (.long p3), .second, .val (.int p4), .val (.int c9), .val (.int c10), .val (.int c11), .val (.ref b12), .val (.ref b13), .val (.long (2 : Int64)), .second, .unset, .unset, .unset, .unset, .unset, .unset, .unset, .unset, .unset, .unset, .unset, .unset, .unset, .unset, .unset, .unset] [(.long ((0 : Int64) + (0 : Int64)))])) _
          refine XS.lstore X375.here hx rfl (hb hby at_123) rfl (l' := #[.val (.long p0), .second, .val (.long p1), .second, .val (.long p2), .second, .val (.long p3), .second, .val (.int p4), .val (.int c9), .val (.int c10), .val (.int c11), .val (.ref b12), .val (.ref b13), .val (.long (2 : Int64)), .second, .val (.long ((0 : Int64) + (0 : Int64))), .second, .unset, .unset, .unset, .unset, .unset, .unset, .unset, .unset, .unset, .unset, .unset, .unset, .unset, .unset]) rfl ?_
          exact hk
        · skip
          have er : (if c10 = (0 : Int32) then (if c9 = (0 : Int32) then (0 : Int64) else 0 + 1) else (if c9 = (0 : Int32) then (0 : Int64) else 0 + 1) + 1) = ((0 : Int64) + (1 : Int64)) := by rw [if_neg q10, if_pos q9] <;> decide
          rw [er]
          intro target hk
          show Steps p.tables e below (T375.setTop (mkF m 97 #[.val (.long p0), .second, .val (.long p1), .second, .val (.long p2), .second, .val (.long p3), .second, .val (.int p4), .val (.int c9), .val (.int c10), .val (.int c11), .val (.ref b12), .val (.ref b13), .val (.long (2 : Int64)), .second, .unset, .unset, .unset, .unset, .unset, .unset, .unset, .unset, .unset, .unset, .unset, .unset, .unset, .unset, .unset, .unset] [])) _
          refine XS.iload X375.here hx rfl (hb hby at_97) rfl ?_
          show Steps p.tables e below (T375.setTop (mkF m 99 #[.val (.long p0), .second, .val (.long p1), .second, .val (.long p2), .second, .val (.long p3), .second, .val (.int p4), .val (.int c9), .val (.int c10), .val (.int c11), .val (.ref b12), .val (.ref b13), .val (.long (2 : Int64)), .second, .unset, .unset, .unset, .unset, .unset, .unset, .unset, .unset, .unset, .unset, .unset, .unset, .unset, .unset, .unset, .unset] [(.int c9)])) _
          refine XS.ifYes X375.here hx rfl (pc0 := 99) (pc' := 106) rfl (hb hby at_99) rfl ((if0 _ _).trans (teq q9).1) (by decide) (by decide) ?_
          show Steps p.tables e below (T375.setTop (mkF m 106 #[.val (.long p0), .second, .val (.long p1), .second, .val (.long p2), .second, .val (.long p3), .second, .val (.int p4), .val (.int c9), .val (.int c10), .val (.int c11), .val (.ref b12), .val (.ref b13), .val (.long (2 : Int64)), .second, .unset, .unset, .unset, .unset, .unset, .unset, .unset, .unset, .unset, .unset, .unset, .unset, .unset, .unset, .unset, .unset] [])) _
          refine XS.lconst X375.here hx rfl (hb hby at_106) ?_
          show Steps p.tables e below (T375.setTop (mkF m 107 #[.val (.long p0), .second, .val (.long p1), .second, .val (.long p2), .second, .val (.long p3), .second, .val (.int p4), .val (.int c9), .val (.int c10), .val (.int c11), .val (.ref b12), .val (.ref b13), .val (.long (2 : Int64)), .second, .unset, .unset, .unset, .unset, .unset, .unset, .unset, .unset, .unset, .unset, .unset, .unset, .unset, .unset, .unset, .unset] [(.long (0 : Int64))])) _
          refine XS.iload X375.here hx rfl (hb hby at_107) rfl ?_
          show Steps p.tables e below (T375.setTop (mkF m 109 #[.val (.long p0), .second, .val (.long p1), .second, .val (.long p2), .second, .val (.long p3), .second, .val (.int p4), .val (.int c9), .val (.int c10), .val (.int c11), .val (.ref b12), .val (.ref b13), .val (.long (2 : Int64)), .second, .unset, .unset, .unset, .unset, .unset, .unset, .unset, .unset, .unset, .unset, .unset, .unset, .unset, .unset, .unset, .unset] [(.int c11), (.long (0 : Int64))])) _
          refine XS.ifNo X375.here hx rfl (hb hby at_109) rfl ((if0 _ _).trans (feq hc11).1) ?_
          show Steps p.tables e below (T375.setTop (mkF m 112 #[.val (.long p0), .second, .val (.long p1), .second, .val (.long p2), .second, .val (.long p3), .second, .val (.int p4), .val (.int c9), .val (.int c10), .val (.int c11), .val (.ref b12), .val (.ref b13), .val (.long (2 : Int64)), .second, .unset, .unset, .unset, .unset, .unset, .unset, .unset, .unset, .unset, .unset, .unset, .unset, .unset, .unset, .unset, .unset] [(.long (0 : Int64))])) _
          refine XS.iload X375.here hx rfl (hb hby at_112) rfl ?_
          show Steps p.tables e below (T375.setTop (mkF m 114 #[.val (.long p0), .second, .val (.long p1), .second, .val (.long p2), .second, .val (.long p3), .second, .val (.int p4), .val (.int c9), .val (.int c10), .val (.int c11), .val (.ref b12), .val (.ref b13), .val (.long (2 : Int64)), .second, .unset, .unset, .unset, .unset, .unset, .unset, .unset, .unset, .unset, .unset, .unset, .unset, .unset, .unset, .unset, .unset] [(.int c10), (.long (0 : Int64))])) _
          refine XS.ifNo X375.here hx rfl (hb hby at_114) rfl ((if0 _ _).trans (feq q10).1) ?_
          show Steps p.tables e below (T375.setTop (mkF m 117 #[.val (.long p0), .second, .val (.long p1), .second, .val (.long p2), .second, .val (.long p3), .second, .val (.int p4), .val (.int c9), .val (.int c10), .val (.int c11), .val (.ref b12), .val (.ref b13), .val (.long (2 : Int64)), .second, .unset, .unset, .unset, .unset, .unset, .unset, .unset, .unset, .unset, .unset, .unset, .unset, .unset, .unset, .unset, .unset] [(.long (0 : Int64))])) _
          refine XS.lconst X375.here hx rfl (hb hby at_117) ?_
          show Steps p.tables e below (T375.setTop (mkF m 118 #[.val (.long p0), .second, .val (.long p1), .second, .val (.long p2), .second, .val (.long p3), .second, .val (.int p4), .val (.int c9), .val (.int c10), .val (.int c11), .val (.ref b12), .val (.ref b13), .val (.long (2 : Int64)), .second, .unset, .unset, .unset, .unset, .unset, .unset, .unset, .unset, .unset, .unset, .unset, .unset, .unset, .unset, .unset, .unset] [(.long (1 : Int64)), (.long (0 : Int64))])) _
          refine XS.goto X375.here hx rfl (pc0 := 118) (pc' := 122) rfl (hb hby at_118) (by decide) (by decide) ?_
          show Steps p.tables e below (T375.setTop (mkF m 122 #[.val (.long p0), .second, .val (.long p1), .second, .val (.long p2), .second, .val (.long p3), .second, .val (.int p4), .val (.int c9), .val (.int c10), .val (.int c11), .val (.ref b12), .val (.ref b13), .val (.long (2 : Int64)), .second, .unset, .unset, .unset, .unset, .unset, .unset, .unset, .unset, .unset, .unset, .unset, .unset, .unset, .unset, .unset, .unset] [(.long (1 : Int64)), (.long (0 : Int64))])) _
          refine XS.ladd X375.here hx rfl (hb hby at_122) rfl ?_
          show Steps p.tables e below (T375.setTop (mkF m 123 #[.val (.long p0), .second, .val (.long p1), .second, .val (.long p2), .second, .val (.long p3), .second, .val (.int p4), .val (.int c9), .val (.int c10), .val (.int c11), .val (.ref b12), .val (.ref b13), .val (.long (2 : Int64)), .second, .unset, .unset, .unset, .unset, .unset, .unset, .unset, .unset, .unset, .unset, .unset, .unset, .unset, .unset, .unset, .unset] [(.long ((0 : Int64) + (1 : Int64)))])) _
          refine XS.lstore X375.here hx rfl (hb hby at_123) rfl (l' := #[.val (.long p0), .second, .val (.long p1), .second, .val (.long p2), .second, .val (.long p3), .second, .val (.int p4), .val (.int c9), .val (.int c10), .val (.int c11), .val (.ref b12), .val (.ref b13), .val (.long (2 : Int64)), .second, .val (.long ((0 : Int64) + (1 : Int64))), .second, .unset, .unset, .unset, .unset, .unset, .unset, .unset, .unset, .unset, .unset, .unset, .unset, .unset, .unset]) rfl ?_
          exact hk
      · skip
        by_cases q10 : c10 = (0 : Int32)
        · skip
          have er : (if c10 = (0 : Int32) then (if c9 = (0 : Int32) then (0 : Int64) else 0 + 1) else (if c9 = (0 : Int32) then (0 : Int64) else 0 + 1) + 1) = ((1 : Int64) + (0 : Int64)) := by rw [if_pos q10, if_neg q9] <;> decide
          rw [er]
          intro target hk
          show Steps p.tables e below (T375.setTop (mkF m 97 #[.val (.long p0), .second, .val (.long p1), .second, .val (.long p2), .second, .val (.long p3), .second, .val (.int p4), .val (.int c9), .val (.int c10), .val (.int c11), .val (.ref b12), .val (.ref b13), .val (.long (2 : Int64)), .second, .unset, .unset, .unset, .unset, .unset, .unset, .unset, .unset, .unset, .unset, .unset, .unset, .unset, .unset, .unset, .unset] [])) _
          refine XS.iload X375.here hx rfl (hb hby at_97) rfl ?_
          show Steps p.tables e below (T375.setTop (mkF m 99 #[.val (.long p0), .second, .val (.long p1), .second, .val (.long p2), .second, .val (.long p3), .second, .val (.int p4), .val (.int c9), .val (.int c10), .val (.int c11), .val (.ref b12), .val (.ref b13), .val (.long (2 : Int64)), .second, .unset, .unset, .unset, .unset, .unset, .unset, .unset, .unset, .unset, .unset, .unset, .unset, .unset, .unset, .unset, .unset] [(.int c9)])) _
          refine XS.ifNo X375.here hx rfl (hb hby at_99) rfl ((if0 _ _).trans (feq q9).1) ?_
          show Steps p.tables e below (T375.setTop (mkF m 102 #[.val (.long p0), .second, .val (.long p1), .second, .val (.long p2), .second, .val (.long p3), .second, .val (.int p4), .val (.int c9), .val (.int c10), .val (.int c11), .val (.ref b12), .val (.ref b13), .val (.long (2 : Int64)), .second, .unset, .unset, .unset, .unset, .unset, .unset, .unset, .unset, .unset, .unset, .unset, .unset, .unset, .unset, .unset, .unset] [])) _
          refine XS.lconst X375.here hx rfl (hb hby at_102) ?_
          show Steps p.tables e below (T375.setTop (mkF m 103 #[.val (.long p0), .second, .val (.long p1), .second, .val (.long p2), .second, .val (.long p3), .second, .val (.int p4), .val (.int c9), .val (.int c10), .val (.int c11), .val (.ref b12), .val (.ref b13), .val (.long (2 : Int64)), .second, .unset, .unset, .unset, .unset, .unset, .unset, .unset, .unset, .unset, .unset, .unset, .unset, .unset, .unset, .unset, .unset] [(.long (1 : Int64))])) _
          refine XS.goto X375.here hx rfl (pc0 := 103) (pc' := 107) rfl (hb hby at_103) (by decide) (by decide) ?_
          show Steps p.tables e below (T375.setTop (mkF m 107 #[.val (.long p0), .second, .val (.long p1), .second, .val (.long p2), .second, .val (.long p3), .second, .val (.int p4), .val (.int c9), .val (.int c10), .val (.int c11), .val (.ref b12), .val (.ref b13), .val (.long (2 : Int64)), .second, .unset, .unset, .unset, .unset, .unset, .unset, .unset, .unset, .unset, .unset, .unset, .unset, .unset, .unset, .unset, .unset] [(.long (1 : Int64))])) _
          refine XS.iload X375.here hx rfl (hb hby at_107) rfl ?_
          show Steps p.tables e below (T375.setTop (mkF m 109 #[.val (.long p0), .second, .val (.long p1), .second, .val (.long p2), .second, .val (.long p3), .second, .val (.int p4), .val (.int c9), .val (.int c10), .val (.int c11), .val (.ref b12), .val (.ref b13), .val (.long (2 : Int64)), .second, .unset, .unset, .unset, .unset, .unset, .unset, .unset, .unset, .unset, .unset, .unset, .unset, .unset, .unset, .unset, .unset] [(.int c11), (.long (1 : Int64))])) _
          refine XS.ifNo X375.here hx rfl (hb hby at_109) rfl ((if0 _ _).trans (feq hc11).1) ?_
          show Steps p.tables e below (T375.setTop (mkF m 112 #[.val (.long p0), .second, .val (.long p1), .second, .val (.long p2), .second, .val (.long p3), .second, .val (.int p4), .val (.int c9), .val (.int c10), .val (.int c11), .val (.ref b12), .val (.ref b13), .val (.long (2 : Int64)), .second, .unset, .unset, .unset, .unset, .unset, .unset, .unset, .unset, .unset, .unset, .unset, .unset, .unset, .unset, .unset, .unset] [(.long (1 : Int64))])) _
          refine XS.iload X375.here hx rfl (hb hby at_112) rfl ?_
          show Steps p.tables e below (T375.setTop (mkF m 114 #[.val (.long p0), .second, .val (.long p1), .second, .val (.long p2), .second, .val (.long p3), .second, .val (.int p4), .val (.int c9), .val (.int c10), .val (.int c11), .val (.ref b12), .val (.ref b13), .val (.long (2 : Int64)), .second, .unset, .unset, .unset, .unset, .unset, .unset, .unset, .unset, .unset, .unset, .unset, .unset, .unset, .unset, .unset, .unset] [(.int c10), (.long (1 : Int64))])) _
          refine XS.ifYes X375.here hx rfl (pc0 := 114) (pc' := 121) rfl (hb hby at_114) rfl ((if0 _ _).trans (teq q10).1) (by decide) (by decide) ?_
          show Steps p.tables e below (T375.setTop (mkF m 121 #[.val (.long p0), .second, .val (.long p1), .second, .val (.long p2), .second, .val (.long p3), .second, .val (.int p4), .val (.int c9), .val (.int c10), .val (.int c11), .val (.ref b12), .val (.ref b13), .val (.long (2 : Int64)), .second, .unset, .unset, .unset, .unset, .unset, .unset, .unset, .unset, .unset, .unset, .unset, .unset, .unset, .unset, .unset, .unset] [(.long (1 : Int64))])) _
          refine XS.lconst X375.here hx rfl (hb hby at_121) ?_
          show Steps p.tables e below (T375.setTop (mkF m 122 #[.val (.long p0), .second, .val (.long p1), .second, .val (.long p2), .second, .val (.long p3), .second, .val (.int p4), .val (.int c9), .val (.int c10), .val (.int c11), .val (.ref b12), .val (.ref b13), .val (.long (2 : Int64)), .second, .unset, .unset, .unset, .unset, .unset, .unset, .unset, .unset, .unset, .unset, .unset, .unset, .unset, .unset, .unset, .unset] [(.long (0 : Int64)), (.long (1 : Int64))])) _
          refine XS.ladd X375.here hx rfl (hb hby at_122) rfl ?_
          show Steps p.tables e below (T375.setTop (mkF m 123 #[.val (.long p0), .second, .val (.long p1), .second, .val (.long p2), .second, .val (.long p3), .second, .val (.int p4), .val (.int c9), .val (.int c10), .val (.int c11), .val (.ref b12), .val (.ref b13), .val (.long (2 : Int64)), .second, .unset, .unset, .unset, .unset, .unset, .unset, .unset, .unset, .unset, .unset, .unset, .unset, .unset, .unset, .unset, .unset] [(.long ((1 : Int64) + (0 : Int64)))])) _
          refine XS.lstore X375.here hx rfl (hb hby at_123) rfl (l' := #[.val (.long p0), .second, .val (.long p1), .second, .val (.long p2), .second, .val (.long p3), .second, .val (.int p4), .val (.int c9), .val (.int c10), .val (.int c11), .val (.ref b12), .val (.ref b13), .val (.long (2 : Int64)), .second, .val (.long ((1 : Int64) + (0 : Int64))), .second, .unset, .unset, .unset, .unset, .unset, .unset, .unset, .unset, .unset, .unset, .unset, .unset, .unset, .unset]) rfl ?_
          exact hk
        · skip
          have er : (if c10 = (0 : Int32) then (if c9 = (0 : Int32) then (0 : Int64) else 0 + 1) else (if c9 = (0 : Int32) then (0 : Int64) else 0 + 1) + 1) = ((1 : Int64) + (1 : Int64)) := by rw [if_neg q10, if_neg q9] <;> decide
          rw [er]
          intro target hk
          show Steps p.tables e below (T375.setTop (mkF m 97 #[.val (.long p0), .second, .val (.long p1), .second, .val (.long p2), .second, .val (.long p3), .second, .val (.int p4), .val (.int c9), .val (.int c10), .val (.int c11), .val (.ref b12), .val (.ref b13), .val (.long (2 : Int64)), .second, .unset, .unset, .unset, .unset, .unset, .unset, .unset, .unset, .unset, .unset, .unset, .unset, .unset, .unset, .unset, .unset] [])) _
          refine XS.iload X375.here hx rfl (hb hby at_97) rfl ?_
          show Steps p.tables e below (T375.setTop (mkF m 99 #[.val (.long p0), .second, .val (.long p1), .second, .val (.long p2), .second, .val (.long p3), .second, .val (.int p4), .val (.int c9), .val (.int c10), .val (.int c11), .val (.ref b12), .val (.ref b13), .val (.long (2 : Int64)), .second, .unset, .unset, .unset, .unset, .unset, .unset, .unset, .unset, .unset, .unset, .unset, .unset, .unset, .unset, .unset, .unset] [(.int c9)])) _
          refine XS.ifNo X375.here hx rfl (hb hby at_99) rfl ((if0 _ _).trans (feq q9).1) ?_
          show Steps p.tables e below (T375.setTop (mkF m 102 #[.val (.long p0), .second, .val (.long p1), .second, .val (.long p2), .second, .val (.long p3), .second, .val (.int p4), .val (.int c9), .val (.int c10), .val (.int c11), .val (.ref b12), .val (.ref b13), .val (.long (2 : Int64)), .second, .unset, .unset, .unset, .unset, .unset, .unset, .unset, .unset, .unset, .unset, .unset, .unset, .unset, .unset, .unset, .unset] [])) _
          refine XS.lconst X375.here hx rfl (hb hby at_102) ?_
          show Steps p.tables e below (T375.setTop (mkF m 103 #[.val (.long p0), .second, .val (.long p1), .second, .val (.long p2), .second, .val (.long p3), .second, .val (.int p4), .val (.int c9), .val (.int c10), .val (.int c11), .val (.ref b12), .val (.ref b13), .val (.long (2 : Int64)), .second, .unset, .unset, .unset, .unset, .unset, .unset, .unset, .unset, .unset, .unset, .unset, .unset, .unset, .unset, .unset, .unset] [(.long (1 : Int64))])) _
          refine XS.goto X375.here hx rfl (pc0 := 103) (pc' := 107) rfl (hb hby at_103) (by decide) (by decide) ?_
          show Steps p.tables e below (T375.setTop (mkF m 107 #[.val (.long p0), .second, .val (.long p1), .second, .val (.long p2), .second, .val (.long p3), .second, .val (.int p4), .val (.int c9), .val (.int c10), .val (.int c11), .val (.ref b12), .val (.ref b13), .val (.long (2 : Int64)), .second, .unset, .unset, .unset, .unset, .unset, .unset, .unset, .unset, .unset, .unset, .unset, .unset, .unset, .unset, .unset, .unset] [(.long (1 : Int64))])) _
          refine XS.iload X375.here hx rfl (hb hby at_107) rfl ?_
          show Steps p.tables e below (T375.setTop (mkF m 109 #[.val (.long p0), .second, .val (.long p1), .second, .val (.long p2), .second, .val (.long p3), .second, .val (.int p4), .val (.int c9), .val (.int c10), .val (.int c11), .val (.ref b12), .val (.ref b13), .val (.long (2 : Int64)), .second, .unset, .unset, .unset, .unset, .unset, .unset, .unset, .unset, .unset, .unset, .unset, .unset, .unset, .unset, .unset, .unset] [(.int c11), (.long (1 : Int64))])) _
          refine XS.ifNo X375.here hx rfl (hb hby at_109) rfl ((if0 _ _).trans (feq hc11).1) ?_
          show Steps p.tables e below (T375.setTop (mkF m 112 #[.val (.long p0), .second, .val (.long p1), .second, .val (.long p2), .second, .val (.long p3), .second, .val (.int p4), .val (.int c9), .val (.int c10), .val (.int c11), .val (.ref b12), .val (.ref b13), .val (.long (2 : Int64)), .second, .unset, .unset, .unset, .unset, .unset, .unset, .unset, .unset, .unset, .unset, .unset, .unset, .unset, .unset, .unset, .unset] [(.long (1 : Int64))])) _
          refine XS.iload X375.here hx rfl (hb hby at_112) rfl ?_
          show Steps p.tables e below (T375.setTop (mkF m 114 #[.val (.long p0), .second, .val (.long p1), .second, .val (.long p2), .second, .val (.long p3), .second, .val (.int p4), .val (.int c9), .val (.int c10), .val (.int c11), .val (.ref b12), .val (.ref b13), .val (.long (2 : Int64)), .second, .unset, .unset, .unset, .unset, .unset, .unset, .unset, .unset, .unset, .unset, .unset, .unset, .unset, .unset, .unset, .unset] [(.int c10), (.long (1 : Int64))])) _
          refine XS.ifNo X375.here hx rfl (hb hby at_114) rfl ((if0 _ _).trans (feq q10).1) ?_
          show Steps p.tables e below (T375.setTop (mkF m 117 #[.val (.long p0), .second, .val (.long p1), .second, .val (.long p2), .second, .val (.long p3), .second, .val (.int p4), .val (.int c9), .val (.int c10), .val (.int c11), .val (.ref b12), .val (.ref b13), .val (.long (2 : Int64)), .second, .unset, .unset, .unset, .unset, .unset, .unset, .unset, .unset, .unset, .unset, .unset, .unset, .unset, .unset, .unset, .unset] [(.long (1 : Int64))])) _
          refine XS.lconst X375.here hx rfl (hb hby at_117) ?_
          show Steps p.tables e below (T375.setTop (mkF m 118 #[.val (.long p0), .second, .val (.long p1), .second, .val (.long p2), .second, .val (.long p3), .second, .val (.int p4), .val (.int c9), .val (.int c10), .val (.int c11), .val (.ref b12), .val (.ref b13), .val (.long (2 : Int64)), .second, .unset, .unset, .unset, .unset, .unset, .unset, .unset, .unset, .unset, .unset, .unset, .unset, .unset, .unset, .unset, .unset] [(.long (1 : Int64)), (.long (1 : Int64))])) _
          refine XS.goto X375.here hx rfl (pc0 := 118) (pc' := 122) rfl (hb hby at_118) (by decide) (by decide) ?_
          show Steps p.tables e below (T375.setTop (mkF m 122 #[.val (.long p0), .second, .val (.long p1), .second, .val (.long p2), .second, .val (.long p3), .second, .val (.int p4), .val (.int c9), .val (.int c10), .val (.int c11), .val (.ref b12), .val (.ref b13), .val (.long (2 : Int64)), .second, .unset, .unset, .unset, .unset, .unset, .unset, .unset, .unset, .unset, .unset, .unset, .unset, .unset, .unset, .unset, .unset] [(.long (1 : Int64)), (.long (1 : Int64))])) _
          refine XS.ladd X375.here hx rfl (hb hby at_122) rfl ?_
          show Steps p.tables e below (T375.setTop (mkF m 123 #[.val (.long p0), .second, .val (.long p1), .second, .val (.long p2), .second, .val (.long p3), .second, .val (.int p4), .val (.int c9), .val (.int c10), .val (.int c11), .val (.ref b12), .val (.ref b13), .val (.long (2 : Int64)), .second, .unset, .unset, .unset, .unset, .unset, .unset, .unset, .unset, .unset, .unset, .unset, .unset, .unset, .unset, .unset, .unset] [(.long ((1 : Int64) + (1 : Int64)))])) _
          refine XS.lstore X375.here hx rfl (hb hby at_123) rfl (l' := #[.val (.long p0), .second, .val (.long p1), .second, .val (.long p2), .second, .val (.long p3), .second, .val (.int p4), .val (.int c9), .val (.int c10), .val (.int c11), .val (.ref b12), .val (.ref b13), .val (.long (2 : Int64)), .second, .val (.long ((1 : Int64) + (1 : Int64))), .second, .unset, .unset, .unset, .unset, .unset, .unset, .unset, .unset, .unset, .unset, .unset, .unset, .unset, .unset]) rfl ?_
          exact hk
    obtain ⟨v379, vmx379, ⟨T379, L379, k379, n379⟩, -, X379, ⟨Lc379, hQ379, l379, y379, z379⟩, st379⟩ := Jvm.LawKit.callS X375 hx (y := (⟨"java/lang/Math", "min", "(JJ)J"⟩ : MethodName)) hown (mvT hZ (hw _ (List.mem_of_getElem? (i := 138) rfl))) (mvT hZ (hw _ (List.mem_of_getElem? (i := 33) rfl))) (mvT hZ (hw _ (List.mem_of_getElem? (i := 34) rfl))) (mvT hZ (hw _ (List.mem_of_getElem? (i := 35) rfl))) (by decide) (backOf (W := 0) (rmJmin l Z a0 hw [] p0 p2 T375.heap n0 Z376 ) hZ (hw _ (List.mem_of_getElem? (i := 35) rfl)) (hw _ (List.mem_of_getElem? (i := 34) rfl)) (by decide) (by decide)) (g := (mkF m 133 #[.val (.long p0), .second, .val (.long p1), .second, .val (.long p2), .second, .val (.long p3), .second, .val (.int p4), .val (.int c9), .val (.int c10), .val (.int c11), .val (.ref b12), .val (.ref b13), .val (.long (2 : Int64)), .second, .val (.long (if c10 = (0 : Int32) then (if c9 = (0 : Int32) then (0 : Int64) else 0 + 1) else (if c9 = (0 : Int32) then (0 : Int64) else 0 + 1) + 1)), .second, .unset, .unset, .unset, .unset, .unset, .unset, .unset, .unset, .unset, .unset, .unset, .unset, .unset, .unset] [(.long p2), (.long p0)])) rfl (by rw [hml]; rfl) (argsL := [(.long p0), (.long p2)]) (rest := []) (lenOf own_pd7 rfl) rfl (by show 2 * 0 + _ ≤ _; exact Nat.le_of_eq rfl) (hb hby at_133) (fun _ _ => ⟨rfl, rfl, (by decide : 6 + 0 ≤ _), (by decide : 2063 + 0 ≤ _)⟩)
    dsimp only [Pt.U, Pt.locs, Pt.cells, Pt.slots] at X379 l379 y379 z379 st379 hQ379
    subst l379 y379 z379
    obtain ⟨rfl, Nq379, eh379⟩ := hQ379
    have N379 := Fr.app N375 Nq379
    obtain ⟨v380, vmx380, ⟨T380, L380, k380, n380⟩, -, X380, ⟨Lc380, hQ380, l380, y380, z380⟩, st380⟩ := Jvm.LawKit.callS X379 hx (y := (⟨"java/lang/Math", "max", "(JJ)J"⟩ : MethodName)) hown (mvT hZ (hw _ (List.mem_of_getElem? (i := 139) rfl))) (mvT hZ (hw _ (List.mem_of_getElem? (i := 140) rfl))) (mvT hZ (hw _ (List.mem_of_getElem? (i := 34) rfl))) (mvT hZ (hw _ (List.mem_of_getElem? (i := 141) rfl))) (by decide) (backOf (W := 0) (rmJmax l Z a0 hw [] p0 p2 T375.heap n0 Z376 ) hZ (hw _ (List.mem_of_getElem? (i := 141) rfl)) (hw _ (List.mem_of_getElem? (i := 34) rfl)) (by decide) (by decide)) (g := (mkF m 141 #[.val (.long p0), .second, .val (.long p1), .second, .val (.long p2), .second, .val (.long p3), .second, .val (.int p4), .val (.int c9), .val (.int c10), .val (.int c11), .val (.ref b12), .val (.ref b13), .val (.long (2 : Int64)), .second, .val (.long (if c10 = (0 : Int32) then (if c9 = (0 : Int32) then (0 : Int64) else 0 + 1) else (if c9 = (0 : Int32) then (0 : Int64) else 0 + 1) + 1)), .second, .val (.long (if p2 < p0 then p2 else p0)), .second, .unset, .unset, .unset, .unset, .unset, .unset, .unset, .unset, .unset, .unset, .unset, .unset] [(.long p2), (.long p0)])) rfl (by rw [hml]; rfl) (argsL := [(.long p0), (.long p2)]) (rest := []) (lenOf own_pd7 rfl) rfl (by show 2 * 0 + _ ≤ _; exact Nat.le_of_eq rfl) (hb hby at_141) (fun _ _ => ⟨rfl, eh379, (by decide : 6 + 0 ≤ _), (by decide : 2063 + 0 ≤ _)⟩)
    dsimp only [Pt.U, Pt.locs, Pt.cells, Pt.slots] at X380 l380 y380 z380 st380 hQ380
    subst l380 y380 z380
    obtain ⟨rfl, Nq380, eh380⟩ := hQ380
    have N380 := Fr.app N379 Nq380
    obtain ⟨v381, vmx381, ⟨T381, L381, k381, n381⟩, -, X381, ⟨Lc381, hQ381, l381, y381, z381⟩, st381⟩ := Jvm.LawKit.callS X380 hx (y := (⟨"java/lang/Math", "min", "(JJ)J"⟩ : MethodName)) hown (mvT hZ (hw _ (List.mem_of_getElem? (i := 138) rfl))) (mvT hZ (hw _ (List.mem_of_getElem? (i := 33) rfl))) (mvT hZ (hw _ (List.mem_of_getElem? (i := 34) rfl))) (mvT hZ (hw _ (List.mem_of_getElem? (i := 35) rfl))) (by decide) (backOf (W := 0) (rmJmin l Z a0 hw [] p1 p3 T375.heap n0 Z376 ) hZ (hw _ (List.mem_of_getElem? (i := 35) rfl)) (hw _ (List.mem_of_getElem? (i := 34) rfl)) (by decide) (by decide)) (g := (mkF m 149 #[.val (.long p0), .second, .val (.long p1), .second, .val (.long p2), .second, .val (.long p3), .second, .val (.int p4), .val (.int c9), .val (.int c10), .val (.int c11), .val (.ref b12), .val (.ref b13), .val (.long (2 : Int64)), .second, .val (.long (if c10 = (0 : Int32) then (if c9 = (0 : Int32) then (0 : Int64) else 0 + 1) else (if c9 = (0 : Int32) then (0 : Int64) else 0 + 1) + 1)), .second, .val (.long (if p2 < p0 then p2 else p0)), .second, .val (.long (if p0 < p2 then p2 else p0)), .second, .unset, .unset, .unset, .unset, .unset, .unset, .unset, .unset, .unset, .unset] [(.long p3), (.long p1)])) rfl (by rw [hml]; rfl) (argsL := [(.long p1), (.long p3)]) (rest := []) (lenOf own_pd7 rfl) rfl (by show 2 * 0 + _ ≤ _; exact Nat.le_of_eq rfl) (hb hby at_149) (fun _ _ => ⟨rfl, eh380, (by decide : 6 + 0 ≤ _), (by decide : 2063 + 0 ≤ _)⟩)
    dsimp only [Pt.U, Pt.locs, Pt.cells, Pt.slots] at X381 l381 y381 z381 st381 hQ381
    subst l381 y381 z381
    obtain ⟨rfl, Nq381, eh381⟩ := hQ381
    have N381 := Fr.app N380 Nq381
    obtain ⟨v382, vmx382, ⟨T382, L382, k382, n382⟩, -, X382, ⟨Lc382, hQ382, l382, y382, z382⟩, st382⟩ := Jvm.LawKit.callS X381 hx (y := (⟨"java/lang/Math", "max", "(JJ)J"⟩ : MethodName)) hown (mvT hZ (hw _ (List.mem_of_getElem? (i := 139) rfl))) (mvT hZ (hw _ (List.mem_of_getElem? (i := 140) rfl))) (mvT hZ (hw _ (List.mem_of_getElem? (i := 34) rfl))) (mvT hZ (hw _ (List.mem_of_getElem? (i := 141) rfl))) (by decide) (backOf (W := 0) (rmJmax l Z a0 hw [] p1 p3 T375.heap n0 Z376 ) hZ (hw _ (List.mem_of_getElem? (i := 141) rfl)) (hw _ (List.mem_of_getElem? (i := 34) rfl)) (by decide) (by decide)) (g := (mkF m 157 #[.val (.long p0), .second, .val (.long p1), .second, .val (.long p2), .second, .val (.long p3), .second, .val (.int p4), .val (.int c9), .val (.int c10), .val (.int c11), .val (.ref b12), .val (.ref b13), .val (.long (2 : Int64)), .second, .val (.long (if c10 = (0 : Int32) then (if c9 = (0 : Int32) then (0 : Int64) else 0 + 1) else (if c9 = (0 : Int32) then (0 : Int64) else 0 + 1) + 1)), .second, .val (.long (if p2 < p0 then p2 else p0)), .second, .val (.long (if p0 < p2 then p2 else p0)), .second, .val (.long (if p3 < p1 then p3 else p1)), .second, .unset, .unset, .unset, .unset, .unset, .unset, .unset, .unset] [(.long p3), (.long p1)])) rfl (by rw [hml]; rfl) (argsL := [(.long p1), (.long p3)]) (rest := []) (lenOf own_pd7 rfl) rfl (by show 2 * 0 + _ ≤ _; exact Nat.le_of_eq rfl) (hb hby at_157) (fun _ _ => ⟨rfl, eh381, (by decide : 6 + 0 ≤ _), (by decide : 2063 + 0 ≤ _)⟩)
    dsimp only [Pt.U, Pt.locs, Pt.cells, Pt.slots] at X382 l382 y382 z382 st382 hQ382
    subst l382 y382 z382
    obtain ⟨rfl, Nq382, eh382⟩ := hQ382
    have N382 := Fr.app N381 Nq382
    have st383 : ∀ target, Steps p.tables e below (T382.setTop (mkF m 214 #[.val (.long p0), .second, .val (.long p1), .second, .val (.long p2), .second, .val (.long p3), .second, .val (.int p4), .val (.int c9), .val (.int c10), .val (.int c11), .val (.ref b12), .val (.ref b13), .val (.long (2 : Int64)), .second, .val (.long (if c10 = (0 : Int32) then (if c9 = (0 : Int32) then (0 : Int64) else 0 + 1) else (if c9 = (0 : Int32) then (0 : Int64) else 0 + 1) + 1)), .second, .val (.long (if p2 < p0 then p2 else p0)), .second, .val (.long (if p0 < p2 then p2 else p0)), .second, .val (.long (if p3 < p1 then p3 else p1)), .second, .val (.long (if p1 < p3 then p3 else p1)), .second, .val (.long (p0 + p2)), .second, .val (.long (p1 + p3)), .second, .val (.double (own_ratio (p0 + p2) (p1 + p3))), .second] [])) target → Steps p.tables e below (T382.setTop (mkF m 195 #[.val (.long p0), .second, .val (.long p1), .second, .val (.long p2), .second, .val (.long p3), .second, .val (.int p4), .val (.int c9), .val (.int c10), .val (.int c11), .val (.ref b12), .val (.ref b13), .val (.long (2 : Int64)), .second, .val (.long (if c10 = (0 : Int32) then (if c9 = (0 : Int32) then (0 : Int64) else 0 + 1) else (if c9 = (0 : Int32) then (0 : Int64) else 0 + 1) + 1)), .second, .val (.long (if p2 < p0 then p2 else p0)), .second, .val (.long (if p0 < p2 then p2 else p0)), .second, .val (.long (if p3 < p1 then p3 else p1)), .second, .val (.long (if p1 < p3 then p3 else p1)), .second, .val (.long (p0 + p2)), .second, .val (.long (p1 + p3)), .second, .unset, .unset] [])) target := by
      by_cases hc : (0 : Int64) < (p0 + p2)
      · skip
        rw [show own_ratio (p0 + p2) (p1 + p3) = FP.ddiv (FP.l2d (p1 + p3)) (FP.l2d (p0 + p2)) from if_pos hc]
        intro target hk
        show Steps p.tables e below (T382.setTop (mkF m 195 #[.val (.long p0), .second, .val (.long p1), .second, .val (.long p2), .second, .val (.long p3), .second, .val (.int p4), .val (.int c9), .val (.int c10), .val (.int c11), .val (.ref b12), .val (.ref b13), .val (.long (2 : Int64)), .second, .val (.long (if c10 = (0 : Int32) then (if c9 = (0 : Int32) then (0 : Int64) else 0 + 1) else (if c9 = (0 : Int32) then (0 : Int64) else 0 + 1) + 1)), .second, .val (.long (if p2 < p0 then p2 else p0)), .second, .val (.long (if p0 < p2 then p2 else p0)), .second, .val (.long (if p3 < p1 then p3 else p1)), .second, .val (.long (if p1 < p3 then p3 else p1)), .second, .val (.long (p0 + p2)), .second, .val (.long (p1 + p3)), .second, .unset, .unset] [])) _
        refine XS.dconst0 X382.here hx rfl (v := 0) (hb hby at_195) (by decide +kernel) ?_
        show Steps p.tables e below (T382.setTop (mkF m 196 #[.val (.long p0), .second, .val (.long p1), .second, .val (.long p2), .second, .val (.long p3), .second, .val (.int p4), .val (.int c9), .val (.int c10), .val (.int c11), .val (.ref b12), .val (.ref b13), .val (.long (2 : Int64)), .second, .val (.long (if c10 = (0 : Int32) then (if c9 = (0 : Int32) then (0 : Int64) else 0 + 1) else (if c9 = (0 : Int32) then (0 : Int64) else 0 + 1) + 1)), .second, .val (.long (if p2 < p0 then p2 else p0)), .second, .val (.long (if p0 < p2 then p2 else p0)), .second, .val (.long (if p3 < p1 then p3 else p1)), .second, .val (.long (if p1 < p3 then p3 else p1)), .second, .val (.long (p0 + p2)), .second, .val (.long (p1 + p3)), .second, .unset, .unset] [(.double (0 : UInt64))])) _
        refine XS.dstore X382.here hx rfl (hb hby at_196) rfl (l' := #[.val (.long p0), .second, .val (.long p1), .second, .val (.long p2), .second, .val (.long p3), .second, .val (.int p4), .val (.int c9), .val (.int c10), .val (.int c11), .val (.ref b12), .val (.ref b13), .val (.long (2 : Int64)), .second, .val (.long (if c10 = (0 : Int32) then (if c9 = (0 : Int32) then (0 : Int64) else 0 + 1) else (if c9 = (0 : Int32) then (0 : Int64) else 0 + 1) + 1)), .second, .val (.long (if p2 < p0 then p2 else p0)), .second, .val (.long (if p0 < p2 then p2 else p0)), .second, .val (.long (if p3 < p1 then p3 else p1)), .second, .val (.long (if p1 < p3 then p3 else p1)), .second, .val (.long (p0 + p2)), .second, .val (.long (p1 + p3)), .second, .val (.double (0 : UInt64)), .second]) rfl ?_
        show Steps p.tables e below (T382.setTop (mkF m 198 #[.val (.long p0), .second, .val (.long p1), .second, .val (.long p2), .second, .val (.long p3), .second, .val (.int p4), .val (.int c9), .val (.int c10), .val (.int c11), .val (.ref b12), .val (.ref b13), .val (.long (2 : Int64)), .second, .val (.long (if c10 = (0 : Int32) then (if c9 = (0 : Int32) then (0 : Int64) else 0 + 1) else (if c9 = (0 : Int32) then (0 : Int64) else 0 + 1) + 1)), .second, .val (.long (if p2 < p0 then p2 else p0)), .second, .val (.long (if p0 < p2 then p2 else p0)), .second, .val (.long (if p3 < p1 then p3 else p1)), .second, .val (.long (if p1 < p3 then p3 else p1)), .second, .val (.long (p0 + p2)), .second, .val (.long (p1 + p3)), .second, .val (.double (0 : UInt64)), .second] [])) _
        refine XS.lload X382.here hx rfl (hb hby at_198) rfl ?_
        show Steps p.tables e below (T382.setTop (mkF m 200 #[.val (.long p0), .second, .val (.long p1), .second, .val (.long p2), .second, .val (.long p3), .second, .val (.int p4), .val (.int c9), .val (.int c10), .val (.int c11), .val (.ref b12), .val (.ref b13), .val (.long (2 : Int64)), .second, .val (.long (if c10 = (0 : Int32) then (if c9 = (0 : Int32) then (0 : Int64) else 0 + 1) else (if c9 = (0 : Int32) then (0 : Int64) else 0 + 1) + 1)), .second, .val (.long (if p2 < p0 then p2 else p0)), .second, .val (.long (if p0 < p2 then p2 else p0)), .second, .val (.long (if p3 < p1 then p3 else p1)), .second, .val (.long (if p1 < p3 then p3 else p1)), .second, .val (.long (p0 + p2)), .second, .val (.long (p1 + p3)), .second, .val (.double (0 : UInt64)), .second] [(.long (p0 + p2))])) _
        refine XS.lconst X382.here hx rfl (hb hby at_200) ?_
        show Steps p.tables e below (T382.setTop (mkF m 201 #[.val (.long p0), .second, .val (.long p1), .second, .val (.long p2), .second, .val (.long p3), .second, .val (.int p4), .val (.int c9), .val (.int c10), .val (.int c11), .val (.ref b12), .val (.ref b13), .val (.long (2 : Int64)), .second, .val (.long (if c10 = (0 : Int32) then (if c9 = (0 : Int32) then (0 : Int64) else 0 + 1) else (if c9 = (0 : Int32) then (0 : Int64) else 0 + 1) + 1)), .second, .val (.long (if p2 < p0 then p2 else p0)), .second, .val (.long (if p0 < p2 then p2 else p0)), .second, .val (.long (if p3 < p1 then p3 else p1)), .second, .val (.long (if p1 < p3 then p3 else p1)), .second, .val (.long (p0 + p2)), .second, .val (.long (p1 + p3)), .second, .val (.double (0 : UInt64)), .second] [(.long (0 : Int64)), (.long (p0 + p2))])) _
        refine XS.lcmp X382.here hx rfl (hb hby at_201) rfl ?_
        show Steps p.tables e below (T382.setTop (mkF m 202 #[.val (.long p0), .second, .val (.long p1), .second, .val (.long p2), .second, .val (.long p3), .second, .val (.int p4), .val (.int c9), .val (.int c10), .val (.int c11), .val (.ref b12), .val (.ref b13), .val (.long (2 : Int64)), .second, .val (.long (if c10 = (0 : Int32) then (if c9 = (0 : Int32) then (0 : Int64) else 0 + 1) else (if c9 = (0 : Int32) then (0 : Int64) else 0 + 1) + 1)), .second, .val (.long (if p2 < p0 then p2 else p0)), .second, .val (.long (if p0 < p2 then p2 else p0)), .second, .val (.long (if p3 < p1 then p3 else p1)), .second, .val (.long (if p1 < p3 then p3 else p1)), .second, .val (.long (p0 + p2)), .second, .val (.long (p1 + p3)), .second, .val (.double (0 : UInt64)), .second] [(.int (lcmpW (p0 + p2) (0 : Int64)))])) _
        refine XS.ifNo X382.here hx rfl (hb hby at_202) rfl ((if0 _ _).trans (tlt ((lw_gt _ _).mpr hc)).2.2.2) ?_
        show Steps p.tables e below (T382.setTop (mkF m 205 #[.val (.long p0), .second, .val (.long p1), .second, .val (.long p2), .second, .val (.long p3), .second, .val (.int p4), .val (.int c9), .val (.int c10), .val (.int c11), .val (.ref b12), .val (.ref b13), .val (.long (2 : Int64)), .second, .val (.long (if c10 = (0 : Int32) then (if c9 = (0 : Int32) then (0 : Int64) else 0 + 1) else (if c9 = (0 : Int32) then (0 : Int64) else 0 + 1) + 1)), .second, .val (.long (if p2 < p0 then p2 else p0)), .second, .val (.long (if p0 < p2 then p2 else p0)), .second, .val (.long (if p3 < p1 then p3 else p1)), .second, .val (.long (if p1 < p3 then p3 else p1)), .second, .val (.long (p0 + p2)), .second, .val (.long (p1 + p3)), .second, .val (.double (0 : UInt64)), .second] [])) _
        refine XS.lload X382.here hx rfl (hb hby at_205) rfl ?_
        show Steps p.tables e below (T382.setTop (mkF m 207 #[.val (.long p0), .second, .val (.long p1), .second, .val (.long p2), .second, .val (.long p3), .second, .val (.int p4), .val (.int c9), .val (.int c10), .val (.int c11), .val (.ref b12), .val (.ref b13), .val (.long (2 : Int64)), .second, .val (.long (if c10 = (0 : Int32) then (if c9 = (0 : Int32) then (0 : Int64) else 0 + 1) else (if c9 = (0 : Int32) then (0 : Int64) else 0 + 1) + 1)), .second, .val (.long (if p2 < p0 then p2 else p0)), .second, .val (.long (if p0 < p2 then p2 else p0)), .second, .val (.long (if p3 < p1 then p3 else p1)), .second, .val (.long (if p1 < p3 then p3 else p1)), .second, .val (.long (p0 + p2)), .second, .val (.long (p1 + p3)), .second, .val (.double (0 : UInt64)), .second] [(.long (p1 + p3))])) _
        refine XS.l2dS X382.here hx rfl (hb hby at_207) rfl rfl ?_
        show Steps p.tables e below (T382.setTop (mkF m 208 #[.val (.long p0), .second, .val (.long p1), .second, .val (.long p2), .second, .val (.long p3), .second, .val (.int p4), .val (.int c9), .val (.int c10), .val (.int c11), .val (.ref b12), .val (.ref b13), .val (.long (2 : Int64)), .second, .val (.long (if c10 = (0 : Int32) then (if c9 = (0 : Int32) then (0 : Int64) else 0 + 1) else (if c9 = (0 : Int32) then (0 : Int64) else 0 + 1) + 1)), .second, .val (.long (if p2 < p0 then p2 else p0)), .second, .val (.long (if p0 < p2 then p2 else p0)), .second, .val (.long (if p3 < p1 then p3 else p1)), .second, .val (.long (if p1 < p3 then p3 else p1)), .second, .val (.long (p0 + p2)), .second, .val (.long (p1 + p3)), .second, .val (.double (0 : UInt64)), .second] [(.double (FP.l2d (p1 + p3)))])) _
        refine XS.lload X382.here hx rfl (hb hby at_208) rfl ?_
        show Steps p.tables e below (T382.setTop (mkF m 210 #[.val (.long p0), .second, .val (.long p1), .second, .val (.long p2), .second, .val (.long p3), .second, .val (.int p4), .val (.int c9), .val (.int c10), .val (.int c11), .val (.ref b12), .val (.ref b13), .val (.long (2 : Int64)), .second, .val (.long (if c10 = (0 : Int32) then (if c9 = (0 : Int32) then (0 : Int64) else 0 + 1) else (if c9 = (0 : Int32) then (0 : Int64) else 0 + 1) + 1)), .second, .val (.long (if p2 < p0 then p2 else p0)), .second, .val (.long (if p0 < p2 then p2 else p0)), .second, .val (.long (if p3 < p1 then p3 else p1)), .second, .val (.long (if p1 < p3 then p3 else p1)), .second, .val (.long (p0 + p2)), .second, .val (.long (p1 + p3)), .second, .val (.double (0 : UInt64)), .second] [(.long (p0 + p2)), (.double (FP.l2d (p1 + p3)))])) _
        refine XS.l2dS X382.here hx rfl (hb hby at_210) rfl rfl ?_
        show Steps p.tables e below (T382.setTop (mkF m 211 #[.val (.long p0), .second, .val (.long p1), .second, .val (.long p2), .second, .val (.long p3), .second, .val (.int p4), .val (.int c9), .val (.int c10), .val (.int c11), .val (.ref b12), .val (.ref b13), .val (.long (2 : Int64)), .second, .val (.long (if c10 = (0 : Int32) then (if c9 = (0 : Int32) then (0 : Int64) else 0 + 1) else (if c9 = (0 : Int32) then (0 : Int64) else 0 + 1) + 1)), .second, .val (.long (if p2 < p0 then p2 else p0)), .second, .val (.long (if p0 < p2 then p2 else p0)), .second, .val (.long (if p3 < p1 then p3 else p1)), .second, .val (.long (if p1 < p3 then p3 else p1)), .second, .val (.long (p0 + p2)), .second, .val (.long (p1 + p3)), .second, .val (.double (0 : UInt64)), .second] [(.double (FP.l2d (p0 + p2))), (.double (FP.l2d (p1 + p3)))])) _
        refine XS.ddivS X382.here hx rfl (hb hby at_211) rfl (own_nnan hc) rfl ?_
        show Steps p.tables e below (T382.setTop (mkF m 212 #[.val (.long p0), .second, .val (.long p1), .second, .val (.long p2), .second, .val (.long p3), .second, .val (.int p4), .val (.int c9), .val (.int c10), .val (.int c11), .val (.ref b12), .val (.ref b13), .val (.long (2 : Int64)), .second, .val (.long (if c10 = (0 : Int32) then (if c9 = (0 : Int32) then (0 : Int64) else 0 + 1) else (if c9 = (0 : Int32) then (0 : Int64) else 0 + 1) + 1)), .second, .val (.long (if p2 < p0 then p2 else p0)), .second, .val (.long (if p0 < p2 then p2 else p0)), .second, .val (.long (if p3 < p1 then p3 else p1)), .second, .val (.long (if p1 < p3 then p3 else p1)), .second, .val (.long (p0 + p2)), .second, .val (.long (p1 + p3)), .second, .val (.double (0 : UInt64)), .second] [(.double (FP.ddiv (FP.l2d (p1 + p3)) (FP.l2d (p0 + p2))))])) _
        refine XS.dstore X382.here hx rfl (hb hby at_212) rfl (l' := #[.val (.long p0), .second, .val (.long p1), .second, .val (.long p2), .second, .val (.long p3), .second, .val (.int p4), .val (.int c9), .val (.int c10), .val (.int c11), .val (.ref b12), .val (.ref b13), .val (.long (2 : Int64)), .second, .val (.long (if c10 = (0 : Int32) then (if c9 = (0 : Int32) then (0 : Int64) else 0 + 1) else (if c9 = (0 : Int32) then (0 : Int64) else 0 + 1) + 1)), .second, .val (.long (if p2 < p0 then p2 else p0)), .second, .val (.long (if p0 < p2 then p2 else p0)), .second, .val (.long (if p3 < p1 then p3 else p1)), .second, .val (.long (if p1 < p3 then p3 else p1)), .second, .val (.long (p0 + p2)), .second, .val (.long (p1 + p3)), .second, .val (.double (FP.ddiv (FP.l2d (p1 + p3)) (FP.l2d (p0 + p2)))), .second]) rfl ?_
        exact hk
      · skip
        rw [show own_ratio (p0 + p2) (p1 + p3) = 0 from if_neg hc]
        intro target hk
        show Steps p.tables e below (T382.setTop (mkF m 195 #[.val (.long p0), .second, .val (.long p1), .second, .val (.long p2), .second, .val (.long p3), .second, .val (.int p4), .val (.int c9), .val (.int c10), .val (.int c11), .val (.ref b12), .val (.ref b13), .val (.long (2 : Int64)), .second, .val (.long (if c10 = (0 : Int32) then (if c9 = (0 : Int32) then (0 : Int64) else 0 + 1) else (if c9 = (0 : Int32) then (0 : Int64) else 0 + 1) + 1)), .second, .val (.long (if p2 < p0 then p2 else p0)), .second, .val (.long (if p0 < p2 then p2 else p0)), .second, .val (.long (if p3 < p1 then p3 else p1)), .second, .val (.long (if p1 < p3 then p3 else p1)), .second, .val (.long (p0 + p2)), .second, .val (.long (p1 + p3)), .second, .unset, .unset] [])) _
        refine XS.dconst0 X382.here hx rfl (v := 0) (hb hby at_195) (by decide +kernel) ?_
        show Steps p.tables e below (T382.setTop (mkF m 196 #[.val (.long p0), .second, .val (.long p1), .second, .val (.long p2), .second, .val (.long p3), .second, .val (.int p4), .val (.int c9), .val (.int c10), .val (.int c11), .val (.ref b12), .val (.ref b13), .val (.long (2 : Int64)), .second, .val (.long (if c10 = (0 : Int32) then (if c9 = (0 : Int32) then (0 : Int64) else 0 + 1) else (if c9 = (0 : Int32) then (0 : Int64) else 0 + 1) + 1)), .second, .val (.long (if p2 < p0 then p2 else p0)), .second, .val (.long (if p0 < p2 then p2 else p0)), .second, .val (.long (if p3 < p1 then p3 else p1)), .second, .val (.long (if p1 < p3 then p3 else p1)), .second, .val (.long (p0 + p2)), .second, .val (.long (p1 + p3)), .second, .unset, .unset] [(.double (0 : UInt64))])) _
        refine XS.dstore X382.here hx rfl (hb hby at_196) rfl (l' := #[.val (.long p0), .second, .val (.long p1), .second, .val (.long p2), .second, .val (.long p3), .second, .val (.int p4), .val (.int c9), .val (.int c10), .val (.int c11), .val (.ref b12), .val (.ref b13), .val (.long (2 : Int64)), .second, .val (.long (if c10 = (0 : Int32) then (if c9 = (0 : Int32) then (0 : Int64) else 0 + 1) else (if c9 = (0 : Int32) then (0 : Int64) else 0 + 1) + 1)), .second, .val (.long (if p2 < p0 then p2 else p0)), .second, .val (.long (if p0 < p2 then p2 else p0)), .second, .val (.long (if p3 < p1 then p3 else p1)), .second, .val (.long (if p1 < p3 then p3 else p1)), .second, .val (.long (p0 + p2)), .second, .val (.long (p1 + p3)), .second, .val (.double (0 : UInt64)), .second]) rfl ?_
        show Steps p.tables e below (T382.setTop (mkF m 198 #[.val (.long p0), .second, .val (.long p1), .second, .val (.long p2), .second, .val (.long p3), .second, .val (.int p4), .val (.int c9), .val (.int c10), .val (.int c11), .val (.ref b12), .val (.ref b13), .val (.long (2 : Int64)), .second, .val (.long (if c10 = (0 : Int32) then (if c9 = (0 : Int32) then (0 : Int64) else 0 + 1) else (if c9 = (0 : Int32) then (0 : Int64) else 0 + 1) + 1)), .second, .val (.long (if p2 < p0 then p2 else p0)), .second, .val (.long (if p0 < p2 then p2 else p0)), .second, .val (.long (if p3 < p1 then p3 else p1)), .second, .val (.long (if p1 < p3 then p3 else p1)), .second, .val (.long (p0 + p2)), .second, .val (.long (p1 + p3)), .second, .val (.double (0 : UInt64)), .second] [])) _
        refine XS.lload X382.here hx rfl (hb hby at_198) rfl ?_
        show Steps p.tables e below (T382.setTop (mkF m 200 #[.val (.long p0), .second, .val (.long p1), .second, .val (.long p2), .second, .val (.long p3), .second, .val (.int p4), .val (.int c9), .val (.int c10), .val (.int c11), .val (.ref b12), .val (.ref b13), .val (.long (2 : Int64)), .second, .val (.long (if c10 = (0 : Int32) then (if c9 = (0 : Int32) then (0 : Int64) else 0 + 1) else (if c9 = (0 : Int32) then (0 : Int64) else 0 + 1) + 1)), .second, .val (.long (if p2 < p0 then p2 else p0)), .second, .val (.long (if p0 < p2 then p2 else p0)), .second, .val (.long (if p3 < p1 then p3 else p1)), .second, .val (.long (if p1 < p3 then p3 else p1)), .second, .val (.long (p0 + p2)), .second, .val (.long (p1 + p3)), .second, .val (.double (0 : UInt64)), .second] [(.long (p0 + p2))])) _
        refine XS.lconst X382.here hx rfl (hb hby at_200) ?_
        show Steps p.tables e below (T382.setTop (mkF m 201 #[.val (.long p0), .second, .val (.long p1), .second, .val (.long p2), .second, .val (.long p3), .second, .val (.int p4), .val (.int c9), .val (.int c10), .val (.int c11), .val (.ref b12), .val (.ref b13), .val (.long (2 : Int64)), .second, .val (.long (if c10 = (0 : Int32) then (if c9 = (0 : Int32) then (0 : Int64) else 0 + 1) else (if c9 = (0 : Int32) then (0 : Int64) else 0 + 1) + 1)), .second, .val (.long (if p2 < p0 then p2 else p0)), .second, .val (.long (if p0 < p2 then p2 else p0)), .second, .val (.long (if p3 < p1 then p3 else p1)), .second, .val (.long (if p1 < p3 then p3 else p1)), .second, .val (.long (p0 + p2)), .second, .val (.long (p1 + p3)), .second, .val (.double (0 : UInt64)), .second] [(.long (0 : Int64)), (.long (p0 + p2))])) _
        refine XS.lcmp X382.here hx rfl (hb hby at_201) rfl ?_
        show Steps p.tables e below (T382.setTop (mkF m 202 #[.val (.long p0), .second, .val (.long p1), .second, .val (.long p2), .second, .val (.long p3), .second, .val (.int p4), .val (.int c9), .val (.int c10), .val (.int c11), .val (.ref b12), .val (.ref b13), .val (.long (2 : Int64)), .second, .val (.long (if c10 = (0 : Int32) then (if c9 = (0 : Int32) then (0 : Int64) else 0 + 1) else (if c9 = (0 : Int32) then (0 : Int64) else 0 + 1) + 1)), .second, .val (.long (if p2 < p0 then p2 else p0)), .second, .val (.long (if p0 < p2 then p2 else p0)), .second, .val (.long (if p3 < p1 then p3 else p1)), .second, .val (.long (if p1 < p3 then p3 else p1)), .second, .val (.long (p0 + p2)), .second, .val (.long (p1 + p3)), .second, .val (.double (0 : UInt64)), .second] [(.int (lcmpW (p0 + p2) (0 : Int64)))])) _
        refine XS.ifYes X382.here hx rfl (pc0 := 202) (pc' := 214) rfl (hb hby at_202) rfl ((if0 _ _).trans (flt (mt (lw_gt _ _).mp hc)).2.2.2) (by decide) (by decide) ?_
        exact hk
    obtain ⟨zE, zF0, zF1, zF2, zF3, zF4, zF5, zF6⟩ := id F13
    obtain ⟨cq384, kq384, q384a, q384b, q384c⟩ := isOf hZ eh382 zE
    obtain ⟨v384, vmx384, ⟨T384, L384, k384, n384⟩, -, X384, ⟨Lc384, hQ384, l384, y384, z384⟩, st384⟩ := X382.virtualBack hx (y := (⟨"com/example/nosy_pool/nosypool/CheckoutStatistics", "count", "()J"⟩ : MethodName)) (z := (⟨"com/example/nosy_pool/nosypool/CheckoutStatistics", "count", "()J"⟩ : MethodName)) hown (mvT hZ (hw _ (List.mem_of_getElem? (i := 101) rfl))) (mvT hZ (hw _ (List.mem_of_getElem? (i := 102) rfl))) (notFace_of_selects (args := #[]) (mvT hZ (hw _ (List.mem_of_getElem? (i := 104) rfl)))) (mvT hZ (hw _ (List.mem_of_getElem? (i := 104) rfl))) (mvT hZ (hw _ (List.mem_of_getElem? (i := 103) rfl))) (by decide) (backOf (W := 0) (rmG_count l Z a0 hw [] b13 (2 : Int64) T375.heap n0 Z376 zF0) hZ (hw _ (List.mem_of_getElem? (i := 105) rfl)) (hw _ (List.mem_of_getElem? (i := 62) rfl)) (by decide) (by decide)) q384a q384c (g := (mkF m 216 #[.val (.long p0), .second, .val (.long p1), .second, .val (.long p2), .second, .val (.long p3), .second, .val (.int p4), .val (.int c9), .val (.int c10), .val (.int c11), .val (.ref b12), .val (.ref b13), .val (.long (2 : Int64)), .second, .val (.long (if c10 = (0 : Int32) then (if c9 = (0 : Int32) then (0 : Int64) else 0 + 1) else (if c9 = (0 : Int32) then (0 : Int64) else 0 + 1) + 1)), .second, .val (.long (if p2 < p0 then p2 else p0)), .second, .val (.long (if p0 < p2 then p2 else p0)), .second, .val (.long (if p3 < p1 then p3 else p1)), .second, .val (.long (if p1 < p3 then p3 else p1)), .second, .val (.long (p0 + p2)), .second, .val (.long (p1 + p3)), .second, .val (.double (own_ratio (p0 + p2) (p1 + p3))), .second] [(.ref b13)])) rfl (by rw [hml]; rfl) (Steps.refl _) (argsL := []) (rest := []) (lenOf own_pd14 rfl) rfl (by show 2 * 0 + _ ≤ _; exact Nat.le_of_eq rfl) (hb hby at_216) (fun _ _ => ⟨rfl, eh382, (by decide : 6 + 0 ≤ _), (by decide : 2063 + 0 ≤ _)⟩)
    dsimp only [Pt.U, Pt.locs, Pt.cells, Pt.slots] at X384 l384 y384 z384 st384 hQ384
    subst l384 y384 z384
    obtain ⟨rfl, Nq384, eh384⟩ := hQ384
    have N384 := Fr.app N382 Nq384
    obtain ⟨cq385, kq385, q385a, q385b, q385c⟩ := isOf hZ eh384 zE
    obtain ⟨v385, vmx385, ⟨T385, L385, k385, n385⟩, -, X385, ⟨Lc385, hQ385, l385, y385, z385⟩, st385⟩ := X384.virtualBack hx (y := (⟨"com/example/nosy_pool/nosypool/CheckoutStatistics", "rolledBack", "()J"⟩ : MethodName)) (z := (⟨"com/example/nosy_pool/nosypool/CheckoutStatistics", "rolledBack", "()J"⟩ : MethodName)) hown (mvT hZ (hw _ (List.mem_of_getElem? (i := 106) rfl))) (mvT hZ (hw _ (List.mem_of_getElem? (i := 107) rfl))) (notFace_of_selects (args := #[]) (mvT hZ (hw _ (List.mem_of_getElem? (i := 109) rfl)))) (mvT hZ (hw _ (List.mem_of_getElem? (i := 109) rfl))) (mvT hZ (hw _ (List.mem_of_getElem? (i := 108) rfl))) (by decide) (backOf (W := 0) (rmG_rolledBack l Z a0 hw [] b13 (if c10 = (0 : Int32) then (if c9 = (0 : Int32) then (0 : Int64) else 0 + 1) else (if c9 = (0 : Int32) then (0 : Int64) else 0 + 1) + 1) T375.heap n0 Z376 zF1) hZ (hw _ (List.mem_of_getElem? (i := 110) rfl)) (hw _ (List.mem_of_getElem? (i := 62) rfl)) (by decide) (by decide)) q385a q385c (g := (mkF m 227 #[.val (.long p0), .second, .val (.long p1), .second, .val (.long p2), .second, .val (.long p3), .second, .val (.int p4), .val (.int c9), .val (.int c10), .val (.int c11), .val (.ref b12), .val (.ref b13), .val (.long (2 : Int64)), .second, .val (.long (if c10 = (0 : Int32) then (if c9 = (0 : Int32) then (0 : Int64) else 0 + 1) else (if c9 = (0 : Int32) then (0 : Int64) else 0 + 1) + 1)), .second, .val (.long (if p2 < p0 then p2 else p0)), .second, .val (.long (if p0 < p2 then p2 else p0)), .second, .val (.long (if p3 < p1 then p3 else p1)), .second, .val (.long (if p1 < p3 then p3 else p1)), .second, .val (.long (p0 + p2)), .second, .val (.long (p1 + p3)), .second, .val (.double (own_ratio (p0 + p2) (p1 + p3))), .second] [(.ref b13)])) rfl (by rw [hml]; rfl) (Steps.refl _) (argsL := []) (rest := []) (lenOf own_pd14 rfl) rfl (by show 2 * 0 + _ ≤ _; exact Nat.le_of_eq rfl) (hb hby at_227) (fun _ _ => ⟨rfl, eh384, (by decide : 6 + 0 ≤ _), (by decide : 2063 + 0 ≤ _)⟩)
    dsimp only [Pt.U, Pt.locs, Pt.cells, Pt.slots] at X385 l385 y385 z385 st385 hQ385
    subst l385 y385 z385
    obtain ⟨rfl, Nq385, eh385⟩ := hQ385
    have N385 := Fr.app N384 Nq385
    obtain ⟨cq386, kq386, q386a, q386b, q386c⟩ := isOf hZ eh385 zE
    obtain ⟨v386, vmx386, ⟨T386, L386, k386, n386⟩, -, X386, ⟨Lc386, hQ386, l386, y386, z386⟩, st386⟩ := X385.virtualBack hx (y := (⟨"com/example/nosy_pool/nosypool/CheckoutStatistics", "holdP50Ms", "()J"⟩ : MethodName)) (z := (⟨"com/example/nosy_pool/nosypool/CheckoutStatistics", "holdP50Ms", "()J"⟩ : MethodName)) hown (mvT hZ (hw _ (List.mem_of_getElem? (i := 111) rfl))) (mvT hZ (hw _ (List.mem_of_getElem? (i := 112) rfl))) (notFace_of_selects (args := #[]) (mvT hZ (hw _ (List.mem_of_getElem? (i := 114) rfl)))) (mvT hZ (hw _ (List.mem_of_getElem? (i := 114) rfl))) (mvT hZ (hw _ (List.mem_of_getElem? (i := 113) rfl))) (by decide) (backOf (W := 0) (rmG_holdP50Ms l Z a0 hw [] b13 ((if p2 < p0 then p2 else p0) / (1000000 : Int64)) T375.heap n0 Z376 zF2) hZ (hw _ (List.mem_of_getElem? (i := 115) rfl)) (hw _ (List.mem_of_getElem? (i := 62) rfl)) (by decide) (by decide)) q386a q386c (g := (mkF m 238 #[.val (.long p0), .second, .val (.long p1), .second, .val (.long p2), .second, .val (.long p3), .second, .val (.int p4), .val (.int c9), .val (.int c10), .val (.int c11), .val (.ref b12), .val (.ref b13), .val (.long (2 : Int64)), .second, .val (.long (if c10 = (0 : Int32) then (if c9 = (0 : Int32) then (0 : Int64) else 0 + 1) else (if c9 = (0 : Int32) then (0 : Int64) else 0 + 1) + 1)), .second, .val (.long (if p2 < p0 then p2 else p0)), .second, .val (.long (if p0 < p2 then p2 else p0)), .second, .val (.long (if p3 < p1 then p3 else p1)), .second, .val (.long (if p1 < p3 then p3 else p1)), .second, .val (.long (p0 + p2)), .second, .val (.long (p1 + p3)), .second, .val (.double (own_ratio (p0 + p2) (p1 + p3))), .second] [(.ref b13)])) rfl (by rw [hml]; rfl) (Steps.refl _) (argsL := []) (rest := []) (lenOf own_pd14 rfl) rfl (by show 2 * 0 + _ ≤ _; exact Nat.le_of_eq rfl) (hb hby at_238) (fun _ _ => ⟨rfl, eh385, (by decide : 6 + 0 ≤ _), (by decide : 2063 + 0 ≤ _)⟩)
    dsimp only [Pt.U, Pt.locs, Pt.cells, Pt.slots] at X386 l386 y386 z386 st386 hQ386
    subst l386 y386 z386
    obtain ⟨rfl, Nq386, eh386⟩ := hQ386
    have N386 := Fr.app N385 Nq386
    obtain ⟨cq387, kq387, q387a, q387b, q387c⟩ := isOf hZ eh386 zE
    obtain ⟨v387, vmx387, ⟨T387, L387, k387, n387⟩, -, X387, ⟨Lc387, hQ387, l387, y387, z387⟩, st387⟩ := X386.virtualBack hx (y := (⟨"com/example/nosy_pool/nosypool/CheckoutStatistics", "holdP99Ms", "()J"⟩ : MethodName)) (z := (⟨"com/example/nosy_pool/nosypool/CheckoutStatistics", "holdP99Ms", "()J"⟩ : MethodName)) hown (mvT hZ (hw _ (List.mem_of_getElem? (i := 117) rfl))) (mvT hZ (hw _ (List.mem_of_getElem? (i := 118) rfl))) (notFace_of_selects (args := #[]) (mvT hZ (hw _ (List.mem_of_getElem? (i := 120) rfl)))) (mvT hZ (hw _ (List.mem_of_getElem? (i := 120) rfl))) (mvT hZ (hw _ (List.mem_of_getElem? (i := 119) rfl))) (by decide) (backOf (W := 0) (rmG_holdP99Ms l Z a0 hw [] b13 ((if p0 < p2 then p2 else p0) / (1000000 : Int64)) T375.heap n0 Z376 zF3) hZ (hw _ (List.mem_of_getElem? (i := 121) rfl)) (hw _ (List.mem_of_getElem? (i := 62) rfl)) (by decide) (by decide)) q387a q387c (g := (mkF m 253 #[.val (.long p0), .second, .val (.long p1), .second, .val (.long p2), .second, .val (.long p3), .second, .val (.int p4), .val (.int c9), .val (.int c10), .val (.int c11), .val (.ref b12), .val (.ref b13), .val (.long (2 : Int64)), .second, .val (.long (if c10 = (0 : Int32) then (if c9 = (0 : Int32) then (0 : Int64) else 0 + 1) else (if c9 = (0 : Int32) then (0 : Int64) else 0 + 1) + 1)), .second, .val (.long (if p2 < p0 then p2 else p0)), .second, .val (.long (if p0 < p2 then p2 else p0)), .second, .val (.long (if p3 < p1 then p3 else p1)), .second, .val (.long (if p1 < p3 then p3 else p1)), .second, .val (.long (p0 + p2)), .second, .val (.long (p1 + p3)), .second, .val (.double (own_ratio (p0 + p2) (p1 + p3))), .second] [(.ref b13)])) rfl (by rw [hml]; rfl) (Steps.refl _) (argsL := []) (rest := []) (lenOf own_pd14 rfl) rfl (by show 2 * 0 + _ ≤ _; exact Nat.le_of_eq rfl) (hb hby at_253) (fun _ _ => ⟨rfl, eh386, (by decide : 6 + 0 ≤ _), (by decide : 2063 + 0 ≤ _)⟩)
    dsimp only [Pt.U, Pt.locs, Pt.cells, Pt.slots] at X387 l387 y387 z387 st387 hQ387
    subst l387 y387 z387
    obtain ⟨rfl, Nq387, eh387⟩ := hQ387
    have N387 := Fr.app N386 Nq387
    obtain ⟨cq388, kq388, q388a, q388b, q388c⟩ := isOf hZ eh387 zE
    obtain ⟨v388, vmx388, ⟨T388, L388, k388, n388⟩, -, X388, ⟨Lc388, hQ388, l388, y388, z388⟩, st388⟩ := X387.virtualBack hx (y := (⟨"com/example/nosy_pool/nosypool/CheckoutStatistics", "busyP50Ms", "()J"⟩ : MethodName)) (z := (⟨"com/example/nosy_pool/nosypool/CheckoutStatistics", "busyP50Ms", "()J"⟩ : MethodName)) hown (mvT hZ (hw _ (List.mem_of_getElem? (i := 122) rfl))) (mvT hZ (hw _ (List.mem_of_getElem? (i := 123) rfl))) (notFace_of_selects (args := #[]) (mvT hZ (hw _ (List.mem_of_getElem? (i := 125) rfl)))) (mvT hZ (hw _ (List.mem_of_getElem? (i := 125) rfl))) (mvT hZ (hw _ (List.mem_of_getElem? (i := 124) rfl))) (by decide) (backOf (W := 0) (rmG_busyP50Ms l Z a0 hw [] b13 ((if p3 < p1 then p3 else p1) / (1000000 : Int64)) T375.heap n0 Z376 zF4) hZ (hw _ (List.mem_of_getElem? (i := 126) rfl)) (hw _ (List.mem_of_getElem? (i := 62) rfl)) (by decide) (by decide)) q388a q388c (g := (mkF m 268 #[.val (.long p0), .second, .val (.long p1), .second, .val (.long p2), .second, .val (.long p3), .second, .val (.int p4), .val (.int c9), .val (.int c10), .val (.int c11), .val (.ref b12), .val (.ref b13), .val (.long (2 : Int64)), .second, .val (.long (if c10 = (0 : Int32) then (if c9 = (0 : Int32) then (0 : Int64) else 0 + 1) else (if c9 = (0 : Int32) then (0 : Int64) else 0 + 1) + 1)), .second, .val (.long (if p2 < p0 then p2 else p0)), .second, .val (.long (if p0 < p2 then p2 else p0)), .second, .val (.long (if p3 < p1 then p3 else p1)), .second, .val (.long (if p1 < p3 then p3 else p1)), .second, .val (.long (p0 + p2)), .second, .val (.long (p1 + p3)), .second, .val (.double (own_ratio (p0 + p2) (p1 + p3))), .second] [(.ref b13)])) rfl (by rw [hml]; rfl) (Steps.refl _) (argsL := []) (rest := []) (lenOf own_pd14 rfl) rfl (by show 2 * 0 + _ ≤ _; exact Nat.le_of_eq rfl) (hb hby at_268) (fun _ _ => ⟨rfl, eh387, (by decide : 6 + 0 ≤ _), (by decide : 2063 + 0 ≤ _)⟩)
    dsimp only [Pt.U, Pt.locs, Pt.cells, Pt.slots] at X388 l388 y388 z388 st388 hQ388
    subst l388 y388 z388
    obtain ⟨rfl, Nq388, eh388⟩ := hQ388
    have N388 := Fr.app N387 Nq388
    obtain ⟨cq389, kq389, q389a, q389b, q389c⟩ := isOf hZ eh388 zE
    obtain ⟨v389, vmx389, ⟨T389, L389, k389, n389⟩, -, X389, ⟨Lc389, hQ389, l389, y389, z389⟩, st389⟩ := X388.virtualBack hx (y := (⟨"com/example/nosy_pool/nosypool/CheckoutStatistics", "busyP99Ms", "()J"⟩ : MethodName)) (z := (⟨"com/example/nosy_pool/nosypool/CheckoutStatistics", "busyP99Ms", "()J"⟩ : MethodName)) hown (mvT hZ (hw _ (List.mem_of_getElem? (i := 127) rfl))) (mvT hZ (hw _ (List.mem_of_getElem? (i := 128) rfl))) (notFace_of_selects (args := #[]) (mvT hZ (hw _ (List.mem_of_getElem? (i := 130) rfl)))) (mvT hZ (hw _ (List.mem_of_getElem? (i := 130) rfl))) (mvT hZ (hw _ (List.mem_of_getElem? (i := 129) rfl))) (by decide) (backOf (W := 0) (rmG_busyP99Ms l Z a0 hw [] b13 ((if p1 < p3 then p3 else p1) / (1000000 : Int64)) T375.heap n0 Z376 zF5) hZ (hw _ (List.mem_of_getElem? (i := 131) rfl)) (hw _ (List.mem_of_getElem? (i := 62) rfl)) (by decide) (by decide)) q389a q389c (g := (mkF m 283 #[.val (.long p0), .second, .val (.long p1), .second, .val (.long p2), .second, .val (.long p3), .second, .val (.int p4), .val (.int c9), .val (.int c10), .val (.int c11), .val (.ref b12), .val (.ref b13), .val (.long (2 : Int64)), .second, .val (.long (if c10 = (0 : Int32) then (if c9 = (0 : Int32) then (0 : Int64) else 0 + 1) else (if c9 = (0 : Int32) then (0 : Int64) else 0 + 1) + 1)), .second, .val (.long (if p2 < p0 then p2 else p0)), .second, .val (.long (if p0 < p2 then p2 else p0)), .second, .val (.long (if p3 < p1 then p3 else p1)), .second, .val (.long (if p1 < p3 then p3 else p1)), .second, .val (.long (p0 + p2)), .second, .val (.long (p1 + p3)), .second, .val (.double (own_ratio (p0 + p2) (p1 + p3))), .second] [(.ref b13)])) rfl (by rw [hml]; rfl) (Steps.refl _) (argsL := []) (rest := []) (lenOf own_pd14 rfl) rfl (by show 2 * 0 + _ ≤ _; exact Nat.le_of_eq rfl) (hb hby at_283) (fun _ _ => ⟨rfl, eh388, (by decide : 6 + 0 ≤ _), (by decide : 2063 + 0 ≤ _)⟩)
    dsimp only [Pt.U, Pt.locs, Pt.cells, Pt.slots] at X389 l389 y389 z389 st389 hQ389
    subst l389 y389 z389
    obtain ⟨rfl, Nq389, eh389⟩ := hQ389
    have N389 := Fr.app N388 Nq389
    obtain ⟨cq390, kq390, q390a, q390b, q390c⟩ := isOf hZ eh389 zE
    obtain ⟨v390, vmx390, ⟨T390, L390, k390, n390⟩, -, X390, ⟨Lc390, hQ390, l390, y390, z390⟩, st390⟩ := X389.virtualBack hx (y := (⟨"com/example/nosy_pool/nosypool/CheckoutStatistics", "busyRatio", "()D"⟩ : MethodName)) (z := (⟨"com/example/nosy_pool/nosypool/CheckoutStatistics", "busyRatio", "()D"⟩ : MethodName)) hown (mvT hZ (hw _ (List.mem_of_getElem? (i := 132) rfl))) (mvT hZ (hw _ (List.mem_of_getElem? (i := 133) rfl))) (notFace_of_selects (args := #[]) (mvT hZ (hw _ (List.mem_of_getElem? (i := 135) rfl)))) (mvT hZ (hw _ (List.mem_of_getElem? (i := 135) rfl))) (mvT hZ (hw _ (List.mem_of_getElem? (i := 134) rfl))) (by decide) (backOf (W := 0) (rmG_busyRatio l Z a0 hw [] b13 (own_ratio (p0 + p2) (p1 + p3)) T375.heap n0 Z376 zF6) hZ (hw _ (List.mem_of_getElem? (i := 136) rfl)) (hw _ (List.mem_of_getElem? (i := 62) rfl)) (by decide) (by decide)) q390a q390c (g := (mkF m 298 #[.val (.long p0), .second, .val (.long p1), .second, .val (.long p2), .second, .val (.long p3), .second, .val (.int p4), .val (.int c9), .val (.int c10), .val (.int c11), .val (.ref b12), .val (.ref b13), .val (.long (2 : Int64)), .second, .val (.long (if c10 = (0 : Int32) then (if c9 = (0 : Int32) then (0 : Int64) else 0 + 1) else (if c9 = (0 : Int32) then (0 : Int64) else 0 + 1) + 1)), .second, .val (.long (if p2 < p0 then p2 else p0)), .second, .val (.long (if p0 < p2 then p2 else p0)), .second, .val (.long (if p3 < p1 then p3 else p1)), .second, .val (.long (if p1 < p3 then p3 else p1)), .second, .val (.long (p0 + p2)), .second, .val (.long (p1 + p3)), .second, .val (.double (own_ratio (p0 + p2) (p1 + p3))), .second] [(.ref b13)])) rfl (by rw [hml]; rfl) (Steps.refl _) (argsL := []) (rest := []) (lenOf own_pd15 rfl) rfl (by show 2 * 0 + _ ≤ _; exact Nat.le_of_eq rfl) (hb hby at_298) (fun _ _ => ⟨rfl, eh389, (by decide : 6 + 0 ≤ _), (by decide : 2063 + 0 ≤ _)⟩)
    dsimp only [Pt.U, Pt.locs, Pt.cells, Pt.slots] at X390 l390 y390 z390 st390 hQ390
    subst l390 y390 z390
    obtain ⟨rfl, Nq390, eh390⟩ := hQ390
    have N390 := Fr.app N389 Nq390
    obtain ⟨fs, hr, hrun, hended, hW, hsame⟩ := X390.leave (v := some (.int (1 : Int32))) (fun h => by rw [hret0] at h; cases h)
    refine ⟨_, _, pre0 _ ?_, hrun, hended, _, _, rfl, ?_, ⟨_, rfl⟩, hW, hsame.mono (by decide) (by decide)⟩
    · show Steps p.tables e below (s₁.setTop (mkF m 0 #[.val (.long p0), .second, .val (.long p1), .second, .val (.long p2), .second, .val (.long p3), .second, .val (.int p4), .unset, .unset, .unset, .unset, .unset, .unset, .unset, .unset, .unset, .unset, .unset, .unset, .unset, .unset, .unset, .unset, .unset, .unset, .unset, .unset, .unset, .unset, .unset] [])) _
      refine st331 _ ?_
      show Steps p.tables e below (s₁.setTop (mkF m 12 #[.val (.long p0), .second, .val (.long p1), .second, .val (.long p2), .second, .val (.long p3), .second, .val (.int p4), .unset, .unset, .unset, .unset, .unset, .unset, .unset, .unset, .unset, .unset, .unset, .unset, .unset, .unset, .unset, .unset, .unset, .unset, .unset, .unset, .unset, .unset, .unset] [(.int c9)])) _
      refine XS.istore X0.here hx rfl (hb hby at_12) rfl (l' := #[.val (.long p0), .second, .val (.long p1), .second, .val (.long p2), .second, .val (.long p3), .second, .val (.int p4), .val (.int c9), .unset, .unset, .unset, .unset, .unset, .unset, .unset, .unset, .unset, .unset, .unset, .unset, .unset, .unset, .unset, .unset, .unset, .unset, .unset, .unset, .unset, .unset]) rfl ?_
      show Steps p.tables e below (s₁.setTop (mkF m 14 #[.val (.long p0), .second, .val (.long p1), .second, .val (.long p2), .second, .val (.long p3), .second, .val (.int p4), .val (.int c9), .unset, .unset, .unset, .unset, .unset, .unset, .unset, .unset, .unset, .unset, .unset, .unset, .unset, .unset, .unset, .unset, .unset, .unset, .unset, .unset, .unset, .unset] [])) _
      refine st332 _ ?_
      show Steps p.tables e below (s₁.setTop (mkF m 26 #[.val (.long p0), .second, .val (.long p1), .second, .val (.long p2), .second, .val (.long p3), .second, .val (.int p4), .val (.int c9), .unset, .unset, .unset, .unset, .unset, .unset, .unset, .unset, .unset, .unset, .unset, .unset, .unset, .unset, .unset, .unset, .unset, .unset, .unset, .unset, .unset, .unset] [(.int c10)])) _
      refine XS.istore X0.here hx rfl (hb hby at_26) rfl (l' := #[.val (.long p0), .second, .val (.long p1), .second, .val (.long p2), .second, .val (.long p3), .second, .val (.int p4), .val (.int c9), .val (.int c10), .unset, .unset, .unset, .unset, .unset, .unset, .unset, .unset, .unset, .unset, .unset, .unset, .unset, .unset, .unset, .unset, .unset, .unset, .unset, .unset, .unset]) rfl ?_
      show Steps p.tables e below (s₁.setTop (mkF m 28 #[.val (.long p0), .second, .val (.long p1), .second, .val (.long p2), .second, .val (.long p3), .second, .val (.int p4), .val (.int c9), .val (.int c10), .unset, .unset, .unset, .unset, .unset, .unset, .unset, .unset, .unset, .unset, .unset, .unset, .unset, .unset, .unset, .unset, .unset, .unset, .unset, .unset, .unset] [])) _
      refine st333 _ ?_
      show Steps p.tables e below (s₁.setTop (mkF m 40 #[.val (.long p0), .second, .val (.long p1), .second, .val (.long p2), .second, .val (.long p3), .second, .val (.int p4), .val (.int c9), .val (.int c10), .unset, .unset, .unset, .unset, .unset, .unset, .unset, .unset, .unset, .unset, .unset, .unset, .unset, .unset, .unset, .unset, .unset, .unset, .unset, .unset, .unset] [(.int c11)])) _
      refine XS.istore X0.here hx rfl (hb hby at_40) rfl (l' := #[.val (.long p0), .second, .val (.long p1), .second, .val (.long p2), .second, .val (.long p3), .second, .val (.int p4), .val (.int c9), .val (.int c10), .val (.int c11), .unset, .unset, .unset, .unset, .unset, .unset, .unset, .unset, .unset, .unset, .unset, .unset, .unset, .unset, .unset, .unset, .unset, .unset, .unset, .unset]) rfl ?_
      show Steps p.tables e below (s₁.setTop (mkF m 42 #[.val (.long p0), .second, .val (.long p1), .second, .val (.long p2), .second, .val (.long p3), .second, .val (.int p4), .val (.int c9), .val (.int c10), .val (.int c11), .unset, .unset, .unset, .unset, .unset, .unset, .unset, .unset, .unset, .unset, .unset, .unset, .unset, .unset, .unset, .unset, .unset, .unset, .unset, .unset] [])) _
      refine st359 _ ?_
      show Steps p.tables e below (T359.setTop (mkF m 76 #[.val (.long p0), .second, .val (.long p1), .second, .val (.long p2), .second, .val (.long p3), .second, .val (.int p4), .val (.int c9), .val (.int c10), .val (.int c11), .val (.ref b12), .unset, .unset, .unset, .unset, .unset, .unset, .unset, .unset, .unset, .unset, .unset, .unset, .unset, .unset, .unset, .unset, .unset, .unset, .unset] [])) _
      refine XS.aload X359.here hx rfl (hb hby at_76) rfl rfl ?_
      show Steps p.tables e below (T359.setTop (mkF m 78 #[.val (.long p0), .second, .val (.long p1), .second, .val (.long p2), .second, .val (.long p3), .second, .val (.int p4), .val (.int c9), .val (.int c10), .val (.int c11), .val (.ref b12), .unset, .unset, .unset, .unset, .unset, .unset, .unset, .unset, .unset, .unset, .unset, .unset, .unset, .unset, .unset, .unset, .unset, .unset, .unset] [(.ref b12)])) _
      refine st375.trans ?_
      show Steps p.tables e below (T375.setTop (mkF m 81 #[.val (.long p0), .second, .val (.long p1), .second, .val (.long p2), .second, .val (.long p3), .second, .val (.int p4), .val (.int c9), .val (.int c10), .val (.int c11), .val (.ref b12), .unset, .unset, .unset, .unset, .unset, .unset, .unset, .unset, .unset, .unset, .unset, .unset, .unset, .unset, .unset, .unset, .unset, .unset, .unset] [(.ref b13)])) _
      refine XS.astore X375.here hx rfl (hb hby at_81) rfl rfl (l' := #[.val (.long p0), .second, .val (.long p1), .second, .val (.long p2), .second, .val (.long p3), .second, .val (.int p4), .val (.int c9), .val (.int c10), .val (.int c11), .val (.ref b12), .val (.ref b13), .unset, .unset, .unset, .unset, .unset, .unset, .unset, .unset, .unset, .unset, .unset, .unset, .unset, .unset, .unset, .unset, .unset, .unset]) rfl ?_
      show Steps p.tables e below (T375.setTop (mkF m 83 #[.val (.long p0), .second, .val (.long p1), .second, .val (.long p2), .second, .val (.long p3), .second, .val (.int p4), .val (.int c9), .val (.int c10), .val (.int c11), .val (.ref b12), .val (.ref b13), .unset, .unset, .unset, .unset, .unset, .unset, .unset, .unset, .unset, .unset, .unset, .unset, .unset, .unset, .unset, .unset, .unset, .unset] [])) _
      refine XS.iload X375.here hx rfl (hb hby at_83) rfl ?_
      show Steps p.tables e below (T375.setTop (mkF m 85 #[.val (.long p0), .second, .val (.long p1), .second, .val (.long p2), .second, .val (.long p3), .second, .val (.int p4), .val (.int c9), .val (.int c10), .val (.int c11), .val (.ref b12), .val (.ref b13), .unset, .unset, .unset, .unset, .unset, .unset, .unset, .unset, .unset, .unset, .unset, .unset, .unset, .unset, .unset, .unset, .unset, .unset] [(.int c11)])) _
      refine XS.ifNo X375.here hx rfl (hb hby at_85) rfl ((if0 _ _).trans (feq hc11).1) ?_
      show Steps p.tables e below (T375.setTop (mkF m 88 #[.val (.long p0), .second, .val (.long p1), .second, .val (.long p2), .second, .val (.long p3), .second, .val (.int p4), .val (.int c9), .val (.int c10), .val (.int c11), .val (.ref b12), .val (.ref b13), .unset, .unset, .unset, .unset, .unset, .unset, .unset, .unset, .unset, .unset, .unset, .unset, .unset, .unset, .unset, .unset, .unset, .unset] [])) _
      refine X375.ldc2Long hx hown (mvT hZ (hw _ (List.mem_of_getElem? (i := 137) rfl))) (g := (mkF m 88 #[.val (.long p0), .second, .val (.long p1), .second, .val (.long p2), .second, .val (.long p3), .second, .val (.int p4), .val (.int c9), .val (.int c10), .val (.int c11), .val (.ref b12), .val (.ref b13), .unset, .unset, .unset, .unset, .unset, .unset, .unset, .unset, .unset, .unset, .unset, .unset, .unset, .unset, .unset, .unset, .unset, .unset] [])) rfl (hb hby at_88) _ ?_
      show Steps p.tables e below (T375.setTop (mkF m 91 #[.val (.long p0), .second, .val (.long p1), .second, .val (.long p2), .second, .val (.long p3), .second, .val (.int p4), .val (.int c9), .val (.int c10), .val (.int c11), .val (.ref b12), .val (.ref b13), .unset, .unset, .unset, .unset, .unset, .unset, .unset, .unset, .unset, .unset, .unset, .unset, .unset, .unset, .unset, .unset, .unset, .unset] [(.long (2 : Int64))])) _
      refine XS.goto X375.here hx rfl (pc0 := 91) (pc' := 95) rfl (hb hby at_91) (by decide) (by decide) ?_
      show Steps p.tables e below (T375.setTop (mkF m 95 #[.val (.long p0), .second, .val (.long p1), .second, .val (.long p2), .second, .val (.long p3), .second, .val (.int p4), .val (.int c9), .val (.int c10), .val (.int c11), .val (.ref b12), .val (.ref b13), .unset, .unset, .unset, .unset, .unset, .unset, .unset, .unset, .unset, .unset, .unset, .unset, .unset, .unset, .unset, .unset, .unset, .unset] [(.long (2 : Int64))])) _
      refine XS.lstore X375.here hx rfl (hb hby at_95) rfl (l' := #[.val (.long p0), .second, .val (.long p1), .second, .val (.long p2), .second, .val (.long p3), .second, .val (.int p4), .val (.int c9), .val (.int c10), .val (.int c11), .val (.ref b12), .val (.ref b13), .val (.long (2 : Int64)), .second, .unset, .unset, .unset, .unset, .unset, .unset, .unset, .unset, .unset, .unset, .unset, .unset, .unset, .unset, .unset, .unset]) rfl ?_
      show Steps p.tables e below (T375.setTop (mkF m 97 #[.val (.long p0), .second, .val (.long p1), .second, .val (.long p2), .second, .val (.long p3), .second, .val (.int p4), .val (.int c9), .val (.int c10), .val (.int c11), .val (.ref b12), .val (.ref b13), .val (.long (2 : Int64)), .second, .unset, .unset, .unset, .unset, .unset, .unset, .unset, .unset, .unset, .unset, .unset, .unset, .unset, .unset, .unset, .unset] [])) _
      refine st378 _ ?_
      show Steps p.tables e below (T375.setTop (mkF m 125 #[.val (.long p0), .second, .val (.long p1), .second, .val (.long p2), .second, .val (.long p3), .second, .val (.int p4), .val (.int c9), .val (.int c10), .val (.int c11), .val (.ref b12), .val (.ref b13), .val (.long (2 : Int64)), .second, .val (.long (if c10 = (0 : Int32) then (if c9 = (0 : Int32) then (0 : Int64) else 0 + 1) else (if c9 = (0 : Int32) then (0 : Int64) else 0 + 1) + 1)), .second, .unset, .unset, .unset, .unset, .unset, .unset, .unset, .unset, .unset, .unset, .unset, .unset, .unset, .unset] [])) _
      refine XS.iload X375.here hx rfl (hb hby at_125) rfl ?_
      show Steps p.tables e below (T375.setTop (mkF m 127 #[.val (.long p0), .second, .val (.long p1), .second, .val (.long p2), .second, .val (.long p3), .second, .val (.int p4), .val (.int c9), .val (.int c10), .val (.int c11), .val (.ref b12), .val (.ref b13), .val (.long (2 : Int64)), .second, .val (.long (if c10 = (0 : Int32) then (if c9 = (0 : Int32) then (0 : Int64) else 0 + 1) else (if c9 = (0 : Int32) then (0 : Int64) else 0 + 1) + 1)), .second, .unset, .unset, .unset, .unset, .unset, .unset, .unset, .unset, .unset, .unset, .unset, .unset, .unset, .unset] [(.int c11)])) _
      refine XS.ifNo X375.here hx rfl (hb hby at_127) rfl ((if0 _ _).trans (feq hc11).1) ?_
      show Steps p.tables e below (T375.setTop (mkF m 130 #[.val (.long p0), .second, .val (.long p1), .second, .val (.long p2), .second, .val (.long p3), .second, .val (.int p4), .val (.int c9), .val (.int c10), .val (.int c11), .val (.ref b12), .val (.ref b13), .val (.long (2 : Int64)), .second, .val (.long (if c10 = (0 : Int32) then (if c9 = (0 : Int32) then (0 : Int64) else 0 + 1) else (if c9 = (0 : Int32) then (0 : Int64) else 0 + 1) + 1)), .second, .unset, .unset, .unset, .unset, .unset, .unset, .unset, .unset, .unset, .unset, .unset, .unset, .unset, .unset] [])) _
      refine XS.lloadN X375.here hx rfl (hb hby at_130) rfl ?_
      show Steps p.tables e below (T375.setTop (mkF m 131 #[.val (.long p0), .second, .val (.long p1), .second, .val (.long p2), .second, .val (.long p3), .second, .val (.int p4), .val (.int c9), .val (.int c10), .val (.int c11), .val (.ref b12), .val (.ref b13), .val (.long (2 : Int64)), .second, .val (.long (if c10 = (0 : Int32) then (if c9 = (0 : Int32) then (0 : Int64) else 0 + 1) else (if c9 = (0 : Int32) then (0 : Int64) else 0 + 1) + 1)), .second, .unset, .unset, .unset, .unset, .unset, .unset, .unset, .unset, .unset, .unset, .unset, .unset, .unset, .unset] [(.long p0)])) _
      refine XS.lload X375.here hx rfl (hb hby at_131) rfl ?_
      show Steps p.tables e below (T375.setTop (mkF m 133 #[.val (.long p0), .second, .val (.long p1), .second, .val (.long p2), .second, .val (.long p3), .second, .val (.int p4), .val (.int c9), .val (.int c10), .val (.int c11), .val (.ref b12), .val (.ref b13), .val (.long (2 : Int64)), .second, .val (.long (if c10 = (0 : Int32) then (if c9 = (0 : Int32) then (0 : Int64) else 0 + 1) else (if c9 = (0 : Int32) then (0 : Int64) else 0 + 1) + 1)), .second, .unset, .unset, .unset, .unset, .unset, .unset, .unset, .unset, .unset, .unset, .unset, .unset, .unset, .unset] [(.long p2), (.long p0)])) _
      refine st379 _ ?_
      show Steps p.tables e below (T379.setTop (mkF m 136 #[.val (.long p0), .second, .val (.long p1), .second, .val (.long p2), .second, .val (.long p3), .second, .val (.int p4), .val (.int c9), .val (.int c10), .val (.int c11), .val (.ref b12), .val (.ref b13), .val (.long (2 : Int64)), .second, .val (.long (if c10 = (0 : Int32) then (if c9 = (0 : Int32) then (0 : Int64) else 0 + 1) else (if c9 = (0 : Int32) then (0 : Int64) else 0 + 1) + 1)), .second, .unset, .unset, .unset, .unset, .unset, .unset, .unset, .unset, .unset, .unset, .unset, .unset, .unset, .unset] [(.long (if p2 < p0 then p2 else p0))])) _
      refine XS.lstore X379.here hx rfl (hb hby at_136) rfl (l' := #[.val (.long p0), .second, .val (.long p1), .second, .val (.long p2), .second, .val (.long p3), .second, .val (.int p4), .val (.int c9), .val (.int c10), .val (.int c11), .val (.ref b12), .val (.ref b13), .val (.long (2 : Int64)), .second, .val (.long (if c10 = (0 : Int32) then (if c9 = (0 : Int32) then (0 : Int64) else 0 + 1) else (if c9 = (0 : Int32) then (0 : Int64) else 0 + 1) + 1)), .second, .val (.long (if p2 < p0 then p2 else p0)), .second, .unset, .unset, .unset, .unset, .unset, .unset, .unset, .unset, .unset, .unset, .unset, .unset]) rfl ?_
      show Steps p.tables e below (T379.setTop (mkF m 138 #[.val (.long p0), .second, .val (.long p1), .second, .val (.long p2), .second, .val (.long p3), .second, .val (.int p4), .val (.int c9), .val (.int c10), .val (.int c11), .val (.ref b12), .val (.ref b13), .val (.long (2 : Int64)), .second, .val (.long (if c10 = (0 : Int32) then (if c9 = (0 : Int32) then (0 : Int64) else 0 + 1) else (if c9 = (0 : Int32) then (0 : Int64) else 0 + 1) + 1)), .second, .val (.long (if p2 < p0 then p2 else p0)), .second, .unset, .unset, .unset, .unset, .unset, .unset, .unset, .unset, .unset, .unset, .unset, .unset] [])) _
      refine XS.lloadN X379.here hx rfl (hb hby at_138) rfl ?_
      show Steps p.tables e below (T379.setTop (mkF m 139 #[.val (.long p0), .second, .val (.long p1), .second, .val (.long p2), .second, .val (.long p3), .second, .val (.int p4), .val (.int c9), .val (.int c10), .val (.int c11), .val (.ref b12), .val (.ref b13), .val (.long (2 : Int64)), .second, .val (.long (if c10 = (0 : Int32) then (if c9 = (0 : Int32) then (0 : Int64) else 0 + 1) else (if c9 = (0 : Int32) then (0 : Int64) else 0 + 1) + 1)), .second, .val (.long (if p2 < p0 then p2 else p0)), .second, .unset, .unset, .unset, .unset, .unset, .unset, .unset, .unset, .unset, .unset, .unset, .unset] [(.long p0)])) _
      refine XS.lload X379.here hx rfl (hb hby at_139) rfl ?_
      show Steps p.tables e below (T379.setTop (mkF m 141 #[.val (.long p0), .second, .val (.long p1), .second, .val (.long p2), .second, .val (.long p3), .second, .val (.int p4), .val (.int c9), .val (.int c10), .val (.int c11), .val (.ref b12), .val (.ref b13), .val (.long (2 : Int64)), .second, .val (.long (if c10 = (0 : Int32) then (if c9 = (0 : Int32) then (0 : Int64) else 0 + 1) else (if c9 = (0 : Int32) then (0 : Int64) else 0 + 1) + 1)), .second, .val (.long (if p2 < p0 then p2 else p0)), .second, .unset, .unset, .unset, .unset, .unset, .unset, .unset, .unset, .unset, .unset, .unset, .unset] [(.long p2), (.long p0)])) _
      refine st380 _ ?_
      show Steps p.tables e below (T380.setTop (mkF m 144 #[.val (.long p0), .second, .val (.long p1), .second, .val (.long p2), .second, .val (.long p3), .second, .val (.int p4), .val (.int c9), .val (.int c10), .val (.int c11), .val (.ref b12), .val (.ref b13), .val (.long (2 : Int64)), .second, .val (.long (if c10 = (0 : Int32) then (if c9 = (0 : Int32) then (0 : Int64) else 0 + 1) else (if c9 = (0 : Int32) then (0 : Int64) else 0 + 1) + 1)), .second, .val (.long (if p2 < p0 then p2 else p0)), .second, .unset, .unset, .unset, .unset, .unset, .unset, .unset, .unset, .unset, .unset, .unset, .unset] [(.long (if p0 < p2 then p2 else p0))])) _
      refine XS.lstore X380.here hx rfl (hb hby at_144) rfl (l' := #[.val (.long p0), .second, .val (.long p1), .second, .val (.long p2), .second, .val (.long p3), .second, .val (.int p4), .val (.int c9), .val (.int c10), .val (.int c11), .val (.ref b12), .val (.ref b13), .val (.long (2 : Int64)), .second, .val (.long (if c10 = (0 : Int32) then (if c9 = (0 : Int32) then (0 : Int64) else 0 + 1) else (if c9 = (0 : Int32) then (0 : Int64) else 0 + 1) + 1)), .second, .val (.long (if p2 < p0 then p2 else p0)), .second, .val (.long (if p0 < p2 then p2 else p0)), .second, .unset, .unset, .unset, .unset, .unset, .unset, .unset, .unset, .unset, .unset]) rfl ?_
      show Steps p.tables e below (T380.setTop (mkF m 146 #[.val (.long p0), .second, .val (.long p1), .second, .val (.long p2), .second, .val (.long p3), .second, .val (.int p4), .val (.int c9), .val (.int c10), .val (.int c11), .val (.ref b12), .val (.ref b13), .val (.long (2 : Int64)), .second, .val (.long (if c10 = (0 : Int32) then (if c9 = (0 : Int32) then (0 : Int64) else 0 + 1) else (if c9 = (0 : Int32) then (0 : Int64) else 0 + 1) + 1)), .second, .val (.long (if p2 < p0 then p2 else p0)), .second, .val (.long (if p0 < p2 then p2 else p0)), .second, .unset, .unset, .unset, .unset, .unset, .unset, .unset, .unset, .unset, .unset] [])) _
      refine XS.lloadN X380.here hx rfl (hb hby at_146) rfl ?_
      show Steps p.tables e below (T380.setTop (mkF m 147 #[.val (.long p0), .second, .val (.long p1), .second, .val (.long p2), .second, .val (.long p3), .second, .val (.int p4), .val (.int c9), .val (.int c10), .val (.int c11), .val (.ref b12), .val (.ref b13), .val (.long (2 : Int64)), .second, .val (.long (if c10 = (0 : Int32) then (if c9 = (0 : Int32) then (0 : Int64) else 0 + 1) else (if c9 = (0 : Int32) then (0 : Int64) else 0 + 1) + 1)), .second, .val (.long (if p2 < p0 then p2 else p0)), .second, .val (.long (if p0 < p2 then p2 else p0)), .second, .unset, .unset, .unset, .unset, .unset, .unset, .unset, .unset, .unset, .unset] [(.long p1)])) _
      refine XS.lload X380.here hx rfl (hb hby at_147) rfl ?_
      show Steps p.tables e below (T380.setTop (mkF m 149 #[.val (.long p0), .second, .val (.long p1), .second, .val (.long p2), .second, .val (.long p3), .second, .val (.int p4), .val (.int c9), .val (.int c10), .val (.int c11), .val (.ref b12), .val (.ref b13), .val (.long (2 : Int64)), .second, .val (.long (if c10 = (0 : Int32) then (if c9 = (0 : Int32) then (0 : Int64) else 0 + 1) else (if c9 = (0 : Int32) then (0 : Int64) else 0 + 1) + 1)), .second, .val (.long (if p2 < p0 then p2 else p0)), .second, .val (.long (if p0 < p2 then p2 else p0)), .second, .unset, .unset, .unset, .unset, .unset, .unset, .unset, .unset, .unset, .unset] [(.long p3), (.long p1)])) _
      refine st381 _ ?_
      show Steps p.tables e below (T381.setTop (mkF m 152 #[.val (.long p0), .second, .val (.long p1), .second, .val (.long p2), .second, .val (.long p3), .second, .val (.int p4), .val (.int c9), .val (.int c10), .val (.int c11), .val (.ref b12), .val (.ref b13), .val (.long (2 : Int64)), .second, .val (.long (if c10 = (0 : Int32) then (if c9 = (0 : Int32) then (0 : Int64) else 0 + 1) else (if c9 = (0 : Int32) then (0 : Int64) else 0 + 1) + 1)), .second, .val (.long (if p2 < p0 then p2 else p0)), .second, .val (.long (if p0 < p2 then p2 else p0)), .second, .unset, .unset, .unset, .unset, .unset, .unset, .unset, .unset, .unset, .unset] [(.long (if p3 < p1 then p3 else p1))])) _
      refine XS.lstore X381.here hx rfl (hb hby at_152) rfl (l' := #[.val (.long p0), .second, .val (.long p1), .second, .val (.long p2), .second, .val (.long p3), .second, .val (.int p4), .val (.int c9), .val (.int c10), .val (.int c11), .val (.ref b12), .val (.ref b13), .val (.long (2 : Int64)), .second, .val (.long (if c10 = (0 : Int32) then (if c9 = (0 : Int32) then (0 : Int64) else 0 + 1) else (if c9 = (0 : Int32) then (0 : Int64) else 0 + 1) + 1)), .second, .val (.long (if p2 < p0 then p2 else p0)), .second, .val (.long (if p0 < p2 then p2 else p0)), .second, .val (.long (if p3 < p1 then p3 else p1)), .second, .unset, .unset, .unset, .unset, .unset, .unset, .unset, .unset]) rfl ?_
      show Steps p.tables e below (T381.setTop (mkF m 154 #[.val (.long p0), .second, .val (.long p1), .second, .val (.long p2), .second, .val (.long p3), .second, .val (.int p4), .val (.int c9), .val (.int c10), .val (.int c11), .val (.ref b12), .val (.ref b13), .val (.long (2 : Int64)), .second, .val (.long (if c10 = (0 : Int32) then (if c9 = (0 : Int32) then (0 : Int64) else 0 + 1) else (if c9 = (0 : Int32) then (0 : Int64) else 0 + 1) + 1)), .second, .val (.long (if p2 < p0 then p2 else p0)), .second, .val (.long (if p0 < p2 then p2 else p0)), .second, .val (.long (if p3 < p1 then p3 else p1)), .second, .unset, .unset, .unset, .unset, .unset, .unset, .unset, .unset] [])) _
      refine XS.lloadN X381.here hx rfl (hb hby at_154) rfl ?_
      show Steps p.tables e below (T381.setTop (mkF m 155 #[.val (.long p0), .second, .val (.long p1), .second, .val (.long p2), .second, .val (.long p3), .second, .val (.int p4), .val (.int c9), .val (.int c10), .val (.int c11), .val (.ref b12), .val (.ref b13), .val (.long (2 : Int64)), .second, .val (.long (if c10 = (0 : Int32) then (if c9 = (0 : Int32) then (0 : Int64) else 0 + 1) else (if c9 = (0 : Int32) then (0 : Int64) else 0 + 1) + 1)), .second, .val (.long (if p2 < p0 then p2 else p0)), .second, .val (.long (if p0 < p2 then p2 else p0)), .second, .val (.long (if p3 < p1 then p3 else p1)), .second, .unset, .unset, .unset, .unset, .unset, .unset, .unset, .unset] [(.long p1)])) _
      refine XS.lload X381.here hx rfl (hb hby at_155) rfl ?_
      show Steps p.tables e below (T381.setTop (mkF m 157 #[.val (.long p0), .second, .val (.long p1), .second, .val (.long p2), .second, .val (.long p3), .second, .val (.int p4), .val (.int c9), .val (.int c10), .val (.int c11), .val (.ref b12), .val (.ref b13), .val (.long (2 : Int64)), .second, .val (.long (if c10 = (0 : Int32) then (if c9 = (0 : Int32) then (0 : Int64) else 0 + 1) else (if c9 = (0 : Int32) then (0 : Int64) else 0 + 1) + 1)), .second, .val (.long (if p2 < p0 then p2 else p0)), .second, .val (.long (if p0 < p2 then p2 else p0)), .second, .val (.long (if p3 < p1 then p3 else p1)), .second, .unset, .unset, .unset, .unset, .unset, .unset, .unset, .unset] [(.long p3), (.long p1)])) _
      refine st382 _ ?_
      show Steps p.tables e below (T382.setTop (mkF m 160 #[.val (.long p0), .second, .val (.long p1), .second, .val (.long p2), .second, .val (.long p3), .second, .val (.int p4), .val (.int c9), .val (.int c10), .val (.int c11), .val (.ref b12), .val (.ref b13), .val (.long (2 : Int64)), .second, .val (.long (if c10 = (0 : Int32) then (if c9 = (0 : Int32) then (0 : Int64) else 0 + 1) else (if c9 = (0 : Int32) then (0 : Int64) else 0 + 1) + 1)), .second, .val (.long (if p2 < p0 then p2 else p0)), .second, .val (.long (if p0 < p2 then p2 else p0)), .second, .val (.long (if p3 < p1 then p3 else p1)), .second, .unset, .unset, .unset, .unset, .unset, .unset, .unset, .unset] [(.long (if p1 < p3 then p3 else p1))])) _
      refine XS.lstore X382.here hx rfl (hb hby at_160) rfl (l' := #[.val (.long p0), .second, .val (.long p1), .second, .val (.long p2), .second, .val (.long p3), .second, .val (.int p4), .val (.int c9), .val (.int c10), .val (.int c11), .val (.ref b12), .val (.ref b13), .val (.long (2 : Int64)), .second, .val (.long (if c10 = (0 : Int32) then (if c9 = (0 : Int32) then (0 : Int64) else 0 + 1) else (if c9 = (0 : Int32) then (0 : Int64) else 0 + 1) + 1)), .second, .val (.long (if p2 < p0 then p2 else p0)), .second, .val (.long (if p0 < p2 then p2 else p0)), .second, .val (.long (if p3 < p1 then p3 else p1)), .second, .val (.long (if p1 < p3 then p3 else p1)), .second, .unset, .unset, .unset, .unset, .unset, .unset]) rfl ?_
      show Steps p.tables e below (T382.setTop (mkF m 162 #[.val (.long p0), .second, .val (.long p1), .second, .val (.long p2), .second, .val (.long p3), .second, .val (.int p4), .val (.int c9), .val (.int c10), .val (.int c11), .val (.ref b12), .val (.ref b13), .val (.long (2 : Int64)), .second, .val (.long (if c10 = (0 : Int32) then (if c9 = (0 : Int32) then (0 : Int64) else 0 + 1) else (if c9 = (0 : Int32) then (0 : Int64) else 0 + 1) + 1)), .second, .val (.long (if p2 < p0 then p2 else p0)), .second, .val (.long (if p0 < p2 then p2 else p0)), .second, .val (.long (if p3 < p1 then p3 else p1)), .second, .val (.long (if p1 < p3 then p3 else p1)), .second, .unset, .unset, .unset, .unset, .unset, .unset] [])) _
      refine XS.lloadN X382.here hx rfl (hb hby at_162) rfl ?_
      show Steps p.tables e below (T382.setTop (mkF m 163 #[.val (.long p0), .second, .val (.long p1), .second, .val (.long p2), .second, .val (.long p3), .second, .val (.int p4), .val (.int c9), .val (.int c10), .val (.int c11), .val (.ref b12), .val (.ref b13), .val (.long (2 : Int64)), .second, .val (.long (if c10 = (0 : Int32) then (if c9 = (0 : Int32) then (0 : Int64) else 0 + 1) else (if c9 = (0 : Int32) then (0 : Int64) else 0 + 1) + 1)), .second, .val (.long (if p2 < p0 then p2 else p0)), .second, .val (.long (if p0 < p2 then p2 else p0)), .second, .val (.long (if p3 < p1 then p3 else p1)), .second, .val (.long (if p1 < p3 then p3 else p1)), .second, .unset, .unset, .unset, .unset, .unset, .unset] [(.long p0)])) _
      refine XS.lload X382.here hx rfl (hb hby at_163) rfl ?_
      show Steps p.tables e below (T382.setTop (mkF m 165 #[.val (.long p0), .second, .val (.long p1), .second, .val (.long p2), .second, .val (.long p3), .second, .val (.int p4), .val (.int c9), .val (.int c10), .val (.int c11), .val (.ref b12), .val (.ref b13), .val (.long (2 : Int64)), .second, .val (.long (if c10 = (0 : Int32) then (if c9 = (0 : Int32) then (0 : Int64) else 0 + 1) else (if c9 = (0 : Int32) then (0 : Int64) else 0 + 1) + 1)), .second, .val (.long (if p2 < p0 then p2 else p0)), .second, .val (.long (if p0 < p2 then p2 else p0)), .second, .val (.long (if p3 < p1 then p3 else p1)), .second, .val (.long (if p1 < p3 then p3 else p1)), .second, .unset, .unset, .unset, .unset, .unset, .unset] [(.long p2), (.long p0)])) _
      refine XS.ladd X382.here hx rfl (hb hby at_165) rfl ?_
      show Steps p.tables e below (T382.setTop (mkF m 166 #[.val (.long p0), .second, .val (.long p1), .second, .val (.long p2), .second, .val (.long p3), .second, .val (.int p4), .val (.int c9), .val (.int c10), .val (.int c11), .val (.ref b12), .val (.ref b13), .val (.long (2 : Int64)), .second, .val (.long (if c10 = (0 : Int32) then (if c9 = (0 : Int32) then (0 : Int64) else 0 + 1) else (if c9 = (0 : Int32) then (0 : Int64) else 0 + 1) + 1)), .second, .val (.long (if p2 < p0 then p2 else p0)), .second, .val (.long (if p0 < p2 then p2 else p0)), .second, .val (.long (if p3 < p1 then p3 else p1)), .second, .val (.long (if p1 < p3 then p3 else p1)), .second, .unset, .unset, .unset, .unset, .unset, .unset] [(.long (p0 + p2))])) _
      refine XS.lstore X382.here hx rfl (hb hby at_166) rfl (l' := #[.val (.long p0), .second, .val (.long p1), .second, .val (.long p2), .second, .val (.long p3), .second, .val (.int p4), .val (.int c9), .val (.int c10), .val (.int c11), .val (.ref b12), .val (.ref b13), .val (.long (2 : Int64)), .second, .val (.long (if c10 = (0 : Int32) then (if c9 = (0 : Int32) then (0 : Int64) else 0 + 1) else (if c9 = (0 : Int32) then (0 : Int64) else 0 + 1) + 1)), .second, .val (.long (if p2 < p0 then p2 else p0)), .second, .val (.long (if p0 < p2 then p2 else p0)), .second, .val (.long (if p3 < p1 then p3 else p1)), .second, .val (.long (if p1 < p3 then p3 else p1)), .second, .val (.long (p0 + p2)), .second, .unset, .unset, .unset, .unset]) rfl ?_
      show Steps p.tables e below (T382.setTop (mkF m 168 #[.val (.long p0), .second, .val (.long p1), .second, .val (.long p2), .second, .val (.long p3), .second, .val (.int p4), .val (.int c9), .val (.int c10), .val (.int c11), .val (.ref b12), .val (.ref b13), .val (.long (2 : Int64)), .second, .val (.long (if c10 = (0 : Int32) then (if c9 = (0 : Int32) then (0 : Int64) else 0 + 1) else (if c9 = (0 : Int32) then (0 : Int64) else 0 + 1) + 1)), .second, .val (.long (if p2 < p0 then p2 else p0)), .second, .val (.long (if p0 < p2 then p2 else p0)), .second, .val (.long (if p3 < p1 then p3 else p1)), .second, .val (.long (if p1 < p3 then p3 else p1)), .second, .val (.long (p0 + p2)), .second, .unset, .unset, .unset, .unset] [])) _
      refine XS.lloadN X382.here hx rfl (hb hby at_168) rfl ?_
      show Steps p.tables e below (T382.setTop (mkF m 169 #[.val (.long p0), .second, .val (.long p1), .second, .val (.long p2), .second, .val (.long p3), .second, .val (.int p4), .val (.int c9), .val (.int c10), .val (.int c11), .val (.ref b12), .val (.ref b13), .val (.long (2 : Int64)), .second, .val (.long (if c10 = (0 : Int32) then (if c9 = (0 : Int32) then (0 : Int64) else 0 + 1) else (if c9 = (0 : Int32) then (0 : Int64) else 0 + 1) + 1)), .second, .val (.long (if p2 < p0 then p2 else p0)), .second, .val (.long (if p0 < p2 then p2 else p0)), .second, .val (.long (if p3 < p1 then p3 else p1)), .second, .val (.long (if p1 < p3 then p3 else p1)), .second, .val (.long (p0 + p2)), .second, .unset, .unset, .unset, .unset] [(.long p1)])) _
      refine XS.lload X382.here hx rfl (hb hby at_169) rfl ?_
      show Steps p.tables e below (T382.setTop (mkF m 171 #[.val (.long p0), .second, .val (.long p1), .second, .val (.long p2), .second, .val (.long p3), .second, .val (.int p4), .val (.int c9), .val (.int c10), .val (.int c11), .val (.ref b12), .val (.ref b13), .val (.long (2 : Int64)), .second, .val (.long (if c10 = (0 : Int32) then (if c9 = (0 : Int32) then (0 : Int64) else 0 + 1) else (if c9 = (0 : Int32) then (0 : Int64) else 0 + 1) + 1)), .second, .val (.long (if p2 < p0 then p2 else p0)), .second, .val (.long (if p0 < p2 then p2 else p0)), .second, .val (.long (if p3 < p1 then p3 else p1)), .second, .val (.long (if p1 < p3 then p3 else p1)), .second, .val (.long (p0 + p2)), .second, .unset, .unset, .unset, .unset] [(.long p3), (.long p1)])) _
      refine XS.ladd X382.here hx rfl (hb hby at_171) rfl ?_
      show Steps p.tables e below (T382.setTop (mkF m 172 #[.val (.long p0), .second, .val (.long p1), .second, .val (.long p2), .second, .val (.long p3), .second, .val (.int p4), .val (.int c9), .val (.int c10), .val (.int c11), .val (.ref b12), .val (.ref b13), .val (.long (2 : Int64)), .second, .val (.long (if c10 = (0 : Int32) then (if c9 = (0 : Int32) then (0 : Int64) else 0 + 1) else (if c9 = (0 : Int32) then (0 : Int64) else 0 + 1) + 1)), .second, .val (.long (if p2 < p0 then p2 else p0)), .second, .val (.long (if p0 < p2 then p2 else p0)), .second, .val (.long (if p3 < p1 then p3 else p1)), .second, .val (.long (if p1 < p3 then p3 else p1)), .second, .val (.long (p0 + p2)), .second, .unset, .unset, .unset, .unset] [(.long (p1 + p3))])) _
      refine XS.lstore X382.here hx rfl (hb hby at_172) rfl (l' := #[.val (.long p0), .second, .val (.long p1), .second, .val (.long p2), .second, .val (.long p3), .second, .val (.int p4), .val (.int c9), .val (.int c10), .val (.int c11), .val (.ref b12), .val (.ref b13), .val (.long (2 : Int64)), .second, .val (.long (if c10 = (0 : Int32) then (if c9 = (0 : Int32) then (0 : Int64) else 0 + 1) else (if c9 = (0 : Int32) then (0 : Int64) else 0 + 1) + 1)), .second, .val (.long (if p2 < p0 then p2 else p0)), .second, .val (.long (if p0 < p2 then p2 else p0)), .second, .val (.long (if p3 < p1 then p3 else p1)), .second, .val (.long (if p1 < p3 then p3 else p1)), .second, .val (.long (p0 + p2)), .second, .val (.long (p1 + p3)), .second, .unset, .unset]) rfl ?_
      show Steps p.tables e below (T382.setTop (mkF m 174 #[.val (.long p0), .second, .val (.long p1), .second, .val (.long p2), .second, .val (.long p3), .second, .val (.int p4), .val (.int c9), .val (.int c10), .val (.int c11), .val (.ref b12), .val (.ref b13), .val (.long (2 : Int64)), .second, .val (.long (if c10 = (0 : Int32) then (if c9 = (0 : Int32) then (0 : Int64) else 0 + 1) else (if c9 = (0 : Int32) then (0 : Int64) else 0 + 1) + 1)), .second, .val (.long (if p2 < p0 then p2 else p0)), .second, .val (.long (if p0 < p2 then p2 else p0)), .second, .val (.long (if p3 < p1 then p3 else p1)), .second, .val (.long (if p1 < p3 then p3 else p1)), .second, .val (.long (p0 + p2)), .second, .val (.long (p1 + p3)), .second, .unset, .unset] [])) _
      refine XS.goto X382.here hx rfl (pc0 := 174) (pc' := 195) rfl (hb hby at_174) (by decide) (by decide) ?_
      show Steps p.tables e below (T382.setTop (mkF m 195 #[.val (.long p0), .second, .val (.long p1), .second, .val (.long p2), .second, .val (.long p3), .second, .val (.int p4), .val (.int c9), .val (.int c10), .val (.int c11), .val (.ref b12), .val (.ref b13), .val (.long (2 : Int64)), .second, .val (.long (if c10 = (0 : Int32) then (if c9 = (0 : Int32) then (0 : Int64) else 0 + 1) else (if c9 = (0 : Int32) then (0 : Int64) else 0 + 1) + 1)), .second, .val (.long (if p2 < p0 then p2 else p0)), .second, .val (.long (if p0 < p2 then p2 else p0)), .second, .val (.long (if p3 < p1 then p3 else p1)), .second, .val (.long (if p1 < p3 then p3 else p1)), .second, .val (.long (p0 + p2)), .second, .val (.long (p1 + p3)), .second, .unset, .unset] [])) _
      refine st383 _ ?_
      show Steps p.tables e below (T382.setTop (mkF m 214 #[.val (.long p0), .second, .val (.long p1), .second, .val (.long p2), .second, .val (.long p3), .second, .val (.int p4), .val (.int c9), .val (.int c10), .val (.int c11), .val (.ref b12), .val (.ref b13), .val (.long (2 : Int64)), .second, .val (.long (if c10 = (0 : Int32) then (if c9 = (0 : Int32) then (0 : Int64) else 0 + 1) else (if c9 = (0 : Int32) then (0 : Int64) else 0 + 1) + 1)), .second, .val (.long (if p2 < p0 then p2 else p0)), .second, .val (.long (if p0 < p2 then p2 else p0)), .second, .val (.long (if p3 < p1 then p3 else p1)), .second, .val (.long (if p1 < p3 then p3 else p1)), .second, .val (.long (p0 + p2)), .second, .val (.long (p1 + p3)), .second, .val (.double (own_ratio (p0 + p2) (p1 + p3))), .second] [])) _
      refine XS.aload X382.here hx rfl (hb hby at_214) rfl rfl ?_
      show Steps p.tables e below (T382.setTop (mkF m 216 #[.val (.long p0), .second, .val (.long p1), .second, .val (.long p2), .second, .val (.long p3), .second, .val (.int p4), .val (.int c9), .val (.int c10), .val (.int c11), .val (.ref b12), .val (.ref b13), .val (.long (2 : Int64)), .second, .val (.long (if c10 = (0 : Int32) then (if c9 = (0 : Int32) then (0 : Int64) else 0 + 1) else (if c9 = (0 : Int32) then (0 : Int64) else 0 + 1) + 1)), .second, .val (.long (if p2 < p0 then p2 else p0)), .second, .val (.long (if p0 < p2 then p2 else p0)), .second, .val (.long (if p3 < p1 then p3 else p1)), .second, .val (.long (if p1 < p3 then p3 else p1)), .second, .val (.long (p0 + p2)), .second, .val (.long (p1 + p3)), .second, .val (.double (own_ratio (p0 + p2) (p1 + p3))), .second] [(.ref b13)])) _
      refine st384.trans ?_
      show Steps p.tables e below (T384.setTop (mkF m 219 #[.val (.long p0), .second, .val (.long p1), .second, .val (.long p2), .second, .val (.long p3), .second, .val (.int p4), .val (.int c9), .val (.int c10), .val (.int c11), .val (.ref b12), .val (.ref b13), .val (.long (2 : Int64)), .second, .val (.long (if c10 = (0 : Int32) then (if c9 = (0 : Int32) then (0 : Int64) else 0 + 1) else (if c9 = (0 : Int32) then (0 : Int64) else 0 + 1) + 1)), .second, .val (.long (if p2 < p0 then p2 else p0)), .second, .val (.long (if p0 < p2 then p2 else p0)), .second, .val (.long (if p3 < p1 then p3 else p1)), .second, .val (.long (if p1 < p3 then p3 else p1)), .second, .val (.long (p0 + p2)), .second, .val (.long (p1 + p3)), .second, .val (.double (own_ratio (p0 + p2) (p1 + p3))), .second] [(.long (2 : Int64))])) _
      refine XS.lload X384.here hx rfl (hb hby at_219) rfl ?_
      show Steps p.tables e below (T384.setTop (mkF m 221 #[.val (.long p0), .second, .val (.long p1), .second, .val (.long p2), .second, .val (.long p3), .second, .val (.int p4), .val (.int c9), .val (.int c10), .val (.int c11), .val (.ref b12), .val (.ref b13), .val (.long (2 : Int64)), .second, .val (.long (if c10 = (0 : Int32) then (if c9 = (0 : Int32) then (0 : Int64) else 0 + 1) else (if c9 = (0 : Int32) then (0 : Int64) else 0 + 1) + 1)), .second, .val (.long (if p2 < p0 then p2 else p0)), .second, .val (.long (if p0 < p2 then p2 else p0)), .second, .val (.long (if p3 < p1 then p3 else p1)), .second, .val (.long (if p1 < p3 then p3 else p1)), .second, .val (.long (p0 + p2)), .second, .val (.long (p1 + p3)), .second, .val (.double (own_ratio (p0 + p2) (p1 + p3))), .second] [(.long (2 : Int64)), (.long (2 : Int64))])) _
      refine XS.lcmp X384.here hx rfl (hb hby at_221) rfl ?_
      show Steps p.tables e below (T384.setTop (mkF m 222 #[.val (.long p0), .second, .val (.long p1), .second, .val (.long p2), .second, .val (.long p3), .second, .val (.int p4), .val (.int c9), .val (.int c10), .val (.int c11), .val (.ref b12), .val (.ref b13), .val (.long (2 : Int64)), .second, .val (.long (if c10 = (0 : Int32) then (if c9 = (0 : Int32) then (0 : Int64) else 0 + 1) else (if c9 = (0 : Int32) then (0 : Int64) else 0 + 1) + 1)), .second, .val (.long (if p2 < p0 then p2 else p0)), .second, .val (.long (if p0 < p2 then p2 else p0)), .second, .val (.long (if p3 < p1 then p3 else p1)), .second, .val (.long (if p1 < p3 then p3 else p1)), .second, .val (.long (p0 + p2)), .second, .val (.long (p1 + p3)), .second, .val (.double (own_ratio (p0 + p2) (p1 + p3))), .second] [(.int (lcmpW (2 : Int64) (2 : Int64)))])) _
      refine XS.ifNo X384.here hx rfl (hb hby at_222) rfl ((if0 _ _).trans (teq ((lw_eq _ _).mpr rfl)).2) ?_
      show Steps p.tables e below (T384.setTop (mkF m 225 #[.val (.long p0), .second, .val (.long p1), .second, .val (.long p2), .second, .val (.long p3), .second, .val (.int p4), .val (.int c9), .val (.int c10), .val (.int c11), .val (.ref b12), .val (.ref b13), .val (.long (2 : Int64)), .second, .val (.long (if c10 = (0 : Int32) then (if c9 = (0 : Int32) then (0 : Int64) else 0 + 1) else (if c9 = (0 : Int32) then (0 : Int64) else 0 + 1) + 1)), .second, .val (.long (if p2 < p0 then p2 else p0)), .second, .val (.long (if p0 < p2 then p2 else p0)), .second, .val (.long (if p3 < p1 then p3 else p1)), .second, .val (.long (if p1 < p3 then p3 else p1)), .second, .val (.long (p0 + p2)), .second, .val (.long (p1 + p3)), .second, .val (.double (own_ratio (p0 + p2) (p1 + p3))), .second] [])) _
      refine XS.aload X384.here hx rfl (hb hby at_225) rfl rfl ?_
      show Steps p.tables e below (T384.setTop (mkF m 227 #[.val (.long p0), .second, .val (.long p1), .second, .val (.long p2), .second, .val (.long p3), .second, .val (.int p4), .val (.int c9), .val (.int c10), .val (.int c11), .val (.ref b12), .val (.ref b13), .val (.long (2 : Int64)), .second, .val (.long (if c10 = (0 : Int32) then (if c9 = (0 : Int32) then (0 : Int64) else 0 + 1) else (if c9 = (0 : Int32) then (0 : Int64) else 0 + 1) + 1)), .second, .val (.long (if p2 < p0 then p2 else p0)), .second, .val (.long (if p0 < p2 then p2 else p0)), .second, .val (.long (if p3 < p1 then p3 else p1)), .second, .val (.long (if p1 < p3 then p3 else p1)), .second, .val (.long (p0 + p2)), .second, .val (.long (p1 + p3)), .second, .val (.double (own_ratio (p0 + p2) (p1 + p3))), .second] [(.ref b13)])) _
      refine st385.trans ?_
      show Steps p.tables e below (T385.setTop (mkF m 230 #[.val (.long p0), .second, .val (.long p1), .second, .val (.long p2), .second, .val (.long p3), .second, .val (.int p4), .val (.int c9), .val (.int c10), .val (.int c11), .val (.ref b12), .val (.ref b13), .val (.long (2 : Int64)), .second, .val (.long (if c10 = (0 : Int32) then (if c9 = (0 : Int32) then (0 : Int64) else 0 + 1) else (if c9 = (0 : Int32) then (0 : Int64) else 0 + 1) + 1)), .second, .val (.long (if p2 < p0 then p2 else p0)), .second, .val (.long (if p0 < p2 then p2 else p0)), .second, .val (.long (if p3 < p1 then p3 else p1)), .second, .val (.long (if p1 < p3 then p3 else p1)), .second, .val (.long (p0 + p2)), .second, .val (.long (p1 + p3)), .second, .val (.double (own_ratio (p0 + p2) (p1 + p3))), .second] [(.long (if c10 = (0 : Int32) then (if c9 = (0 : Int32) then (0 : Int64) else 0 + 1) else (if c9 = (0 : Int32) then (0 : Int64) else 0 + 1) + 1))])) _
      refine XS.lload X385.here hx rfl (hb hby at_230) rfl ?_
      show Steps p.tables e below (T385.setTop (mkF m 232 #[.val (.long p0), .second, .val (.long p1), .second, .val (.long p2), .second, .val (.long p3), .second, .val (.int p4), .val (.int c9), .val (.int c10), .val (.int c11), .val (.ref b12), .val (.ref b13), .val (.long (2 : Int64)), .second, .val (.long (if c10 = (0 : Int32) then (if c9 = (0 : Int32) then (0 : Int64) else 0 + 1) else (if c9 = (0 : Int32) then (0 : Int64) else 0 + 1) + 1)), .second, .val (.long (if p2 < p0 then p2 else p0)), .second, .val (.long (if p0 < p2 then p2 else p0)), .second, .val (.long (if p3 < p1 then p3 else p1)), .second, .val (.long (if p1 < p3 then p3 else p1)), .second, .val (.long (p0 + p2)), .second, .val (.long (p1 + p3)), .second, .val (.double (own_ratio (p0 + p2) (p1 + p3))), .second] [(.long (if c10 = (0 : Int32) then (if c9 = (0 : Int32) then (0 : Int64) else 0 + 1) else (if c9 = (0 : Int32) then (0 : Int64) else 0 + 1) + 1)), (.long (if c10 = (0 : Int32) then (if c9 = (0 : Int32) then (0 : Int64) else 0 + 1) else (if c9 = (0 : Int32) then (0 : Int64) else 0 + 1) + 1))])) _
      refine XS.lcmp X385.here hx rfl (hb hby at_232) rfl ?_
      show Steps p.tables e below (T385.setTop (mkF m 233 #[.val (.long p0), .second, .val (.long p1), .second, .val (.long p2), .second, .val (.long p3), .second, .val (.int p4), .val (.int c9), .val (.int c10), .val (.int c11), .val (.ref b12), .val (.ref b13), .val (.long (2 : Int64)), .second, .val (.long (if c10 = (0 : Int32) then (if c9 = (0 : Int32) then (0 : Int64) else 0 + 1) else (if c9 = (0 : Int32) then (0 : Int64) else 0 + 1) + 1)), .second, .val (.long (if p2 < p0 then p2 else p0)), .second, .val (.long (if p0 < p2 then p2 else p0)), .second, .val (.long (if p3 < p1 then p3 else p1)), .second, .val (.long (if p1 < p3 then p3 else p1)), .second, .val (.long (p0 + p2)), .second, .val (.long (p1 + p3)), .second, .val (.double (own_ratio (p0 + p2) (p1 + p3))), .second] [(.int (lcmpW (if c10 = (0 : Int32) then (if c9 = (0 : Int32) then (0 : Int64) else 0 + 1) else (if c9 = (0 : Int32) then (0 : Int64) else 0 + 1) + 1) (if c10 = (0 : Int32) then (if c9 = (0 : Int32) then (0 : Int64) else 0 + 1) else (if c9 = (0 : Int32) then (0 : Int64) else 0 + 1) + 1)))])) _
      refine XS.ifNo X385.here hx rfl (hb hby at_233) rfl ((if0 _ _).trans (teq ((lw_eq _ _).mpr rfl)).2) ?_
      show Steps p.tables e below (T385.setTop (mkF m 236 #[.val (.long p0), .second, .val (.long p1), .second, .val (.long p2), .second, .val (.long p3), .second, .val (.int p4), .val (.int c9), .val (.int c10), .val (.int c11), .val (.ref b12), .val (.ref b13), .val (.long (2 : Int64)), .second, .val (.long (if c10 = (0 : Int32) then (if c9 = (0 : Int32) then (0 : Int64) else 0 + 1) else (if c9 = (0 : Int32) then (0 : Int64) else 0 + 1) + 1)), .second, .val (.long (if p2 < p0 then p2 else p0)), .second, .val (.long (if p0 < p2 then p2 else p0)), .second, .val (.long (if p3 < p1 then p3 else p1)), .second, .val (.long (if p1 < p3 then p3 else p1)), .second, .val (.long (p0 + p2)), .second, .val (.long (p1 + p3)), .second, .val (.double (own_ratio (p0 + p2) (p1 + p3))), .second] [])) _
      refine XS.aload X385.here hx rfl (hb hby at_236) rfl rfl ?_
      show Steps p.tables e below (T385.setTop (mkF m 238 #[.val (.long p0), .second, .val (.long p1), .second, .val (.long p2), .second, .val (.long p3), .second, .val (.int p4), .val (.int c9), .val (.int c10), .val (.int c11), .val (.ref b12), .val (.ref b13), .val (.long (2 : Int64)), .second, .val (.long (if c10 = (0 : Int32) then (if c9 = (0 : Int32) then (0 : Int64) else 0 + 1) else (if c9 = (0 : Int32) then (0 : Int64) else 0 + 1) + 1)), .second, .val (.long (if p2 < p0 then p2 else p0)), .second, .val (.long (if p0 < p2 then p2 else p0)), .second, .val (.long (if p3 < p1 then p3 else p1)), .second, .val (.long (if p1 < p3 then p3 else p1)), .second, .val (.long (p0 + p2)), .second, .val (.long (p1 + p3)), .second, .val (.double (own_ratio (p0 + p2) (p1 + p3))), .second] [(.ref b13)])) _
      refine st386.trans ?_
      show Steps p.tables e below (T386.setTop (mkF m 241 #[.val (.long p0), .second, .val (.long p1), .second, .val (.long p2), .second, .val (.long p3), .second, .val (.int p4), .val (.int c9), .val (.int c10), .val (.int c11), .val (.ref b12), .val (.ref b13), .val (.long (2 : Int64)), .second, .val (.long (if c10 = (0 : Int32) then (if c9 = (0 : Int32) then (0 : Int64) else 0 + 1) else (if c9 = (0 : Int32) then (0 : Int64) else 0 + 1) + 1)), .second, .val (.long (if p2 < p0 then p2 else p0)), .second, .val (.long (if p0 < p2 then p2 else p0)), .second, .val (.long (if p3 < p1 then p3 else p1)), .second, .val (.long (if p1 < p3 then p3 else p1)), .second, .val (.long (p0 + p2)), .second, .val (.long (p1 + p3)), .second, .val (.double (own_ratio (p0 + p2) (p1 + p3))), .second] [(.long ((if p2 < p0 then p2 else p0) / (1000000 : Int64)))])) _
      refine XS.lload X386.here hx rfl (hb hby at_241) rfl ?_
      show Steps p.tables e below (T386.setTop (mkF m 243 #[.val (.long p0), .second, .val (.long p1), .second, .val (.long p2), .second, .val (.long p3), .second, .val (.int p4), .val (.int c9), .val (.int c10), .val (.int c11), .val (.ref b12), .val (.ref b13), .val (.long (2 : Int64)), .second, .val (.long (if c10 = (0 : Int32) then (if c9 = (0 : Int32) then (0 : Int64) else 0 + 1) else (if c9 = (0 : Int32) then (0 : Int64) else 0 + 1) + 1)), .second, .val (.long (if p2 < p0 then p2 else p0)), .second, .val (.long (if p0 < p2 then p2 else p0)), .second, .val (.long (if p3 < p1 then p3 else p1)), .second, .val (.long (if p1 < p3 then p3 else p1)), .second, .val (.long (p0 + p2)), .second, .val (.long (p1 + p3)), .second, .val (.double (own_ratio (p0 + p2) (p1 + p3))), .second] [(.long (if p2 < p0 then p2 else p0)), (.long ((if p2 < p0 then p2 else p0) / (1000000 : Int64)))])) _
      refine X386.ldc2Long hx hown (mvT hZ (hw _ (List.mem_of_getElem? (i := 116) rfl))) (g := (mkF m 243 #[.val (.long p0), .second, .val (.long p1), .second, .val (.long p2), .second, .val (.long p3), .second, .val (.int p4), .val (.int c9), .val (.int c10), .val (.int c11), .val (.ref b12), .val (.ref b13), .val (.long (2 : Int64)), .second, .val (.long (if c10 = (0 : Int32) then (if c9 = (0 : Int32) then (0 : Int64) else 0 + 1) else (if c9 = (0 : Int32) then (0 : Int64) else 0 + 1) + 1)), .second, .val (.long (if p2 < p0 then p2 else p0)), .second, .val (.long (if p0 < p2 then p2 else p0)), .second, .val (.long (if p3 < p1 then p3 else p1)), .second, .val (.long (if p1 < p3 then p3 else p1)), .second, .val (.long (p0 + p2)), .second, .val (.long (p1 + p3)), .second, .val (.double (own_ratio (p0 + p2) (p1 + p3))), .second] [(.long (if p2 < p0 then p2 else p0)), (.long ((if p2 < p0 then p2 else p0) / (1000000 : Int64)))])) rfl (hb hby at_243) _ ?_
      show Steps p.tables e below (T386.setTop (mkF m 246 #[.val (.long p0), .second, .val (.long p1), .second, .val (.long p2), .second, .val (.long p3), .second, .val (.int p4), .val (.int c9), .val (.int c10), .val (.int c11), .val (.ref b12), .val (.ref b13), .val (.long (2 : Int64)), .second, .val (.long (if c10 = (0 : Int32) then (if c9 = (0 : Int32) then (0 : Int64) else 0 + 1) else (if c9 = (0 : Int32) then (0 : Int64) else 0 + 1) + 1)), .second, .val (.long (if p2 < p0 then p2 else p0)), .second, .val (.long (if p0 < p2 then p2 else p0)), .second, .val (.long (if p3 < p1 then p3 else p1)), .second, .val (.long (if p1 < p3 then p3 else p1)), .second, .val (.long (p0 + p2)), .second, .val (.long (p1 + p3)), .second, .val (.double (own_ratio (p0 + p2) (p1 + p3))), .second] [(.long (1000000 : Int64)), (.long (if p2 < p0 then p2 else p0)), (.long ((if p2 < p0 then p2 else p0) / (1000000 : Int64)))])) _
      refine XS.ldiv X386.here hx rfl (hb hby at_246) rfl (by decide) ?_
      show Steps p.tables e below (T386.setTop (mkF m 247 #[.val (.long p0), .second, .val (.long p1), .second, .val (.long p2), .second, .val (.long p3), .second, .val (.int p4), .val (.int c9), .val (.int c10), .val (.int c11), .val (.ref b12), .val (.ref b13), .val (.long (2 : Int64)), .second, .val (.long (if c10 = (0 : Int32) then (if c9 = (0 : Int32) then (0 : Int64) else 0 + 1) else (if c9 = (0 : Int32) then (0 : Int64) else 0 + 1) + 1)), .second, .val (.long (if p2 < p0 then p2 else p0)), .second, .val (.long (if p0 < p2 then p2 else p0)), .second, .val (.long (if p3 < p1 then p3 else p1)), .second, .val (.long (if p1 < p3 then p3 else p1)), .second, .val (.long (p0 + p2)), .second, .val (.long (p1 + p3)), .second, .val (.double (own_ratio (p0 + p2) (p1 + p3))), .second] [(.long ((if p2 < p0 then p2 else p0) / (1000000 : Int64))), (.long ((if p2 < p0 then p2 else p0) / (1000000 : Int64)))])) _
      refine XS.lcmp X386.here hx rfl (hb hby at_247) rfl ?_
      show Steps p.tables e below (T386.setTop (mkF m 248 #[.val (.long p0), .second, .val (.long p1), .second, .val (.long p2), .second, .val (.long p3), .second, .val (.int p4), .val (.int c9), .val (.int c10), .val (.int c11), .val (.ref b12), .val (.ref b13), .val (.long (2 : Int64)), .second, .val (.long (if c10 = (0 : Int32) then (if c9 = (0 : Int32) then (0 : Int64) else 0 + 1) else (if c9 = (0 : Int32) then (0 : Int64) else 0 + 1) + 1)), .second, .val (.long (if p2 < p0 then p2 else p0)), .second, .val (.long (if p0 < p2 then p2 else p0)), .second, .val (.long (if p3 < p1 then p3 else p1)), .second, .val (.long (if p1 < p3 then p3 else p1)), .second, .val (.long (p0 + p2)), .second, .val (.long (p1 + p3)), .second, .val (.double (own_ratio (p0 + p2) (p1 + p3))), .second] [(.int (lcmpW ((if p2 < p0 then p2 else p0) / (1000000 : Int64)) ((if p2 < p0 then p2 else p0) / (1000000 : Int64))))])) _
      refine XS.ifNo X386.here hx rfl (hb hby at_248) rfl ((if0 _ _).trans (teq ((lw_eq _ _).mpr rfl)).2) ?_
      show Steps p.tables e below (T386.setTop (mkF m 251 #[.val (.long p0), .second, .val (.long p1), .second, .val (.long p2), .second, .val (.long p3), .second, .val (.int p4), .val (.int c9), .val (.int c10), .val (.int c11), .val (.ref b12), .val (.ref b13), .val (.long (2 : Int64)), .second, .val (.long (if c10 = (0 : Int32) then (if c9 = (0 : Int32) then (0 : Int64) else 0 + 1) else (if c9 = (0 : Int32) then (0 : Int64) else 0 + 1) + 1)), .second, .val (.long (if p2 < p0 then p2 else p0)), .second, .val (.long (if p0 < p2 then p2 else p0)), .second, .val (.long (if p3 < p1 then p3 else p1)), .second, .val (.long (if p1 < p3 then p3 else p1)), .second, .val (.long (p0 + p2)), .second, .val (.long (p1 + p3)), .second, .val (.double (own_ratio (p0 + p2) (p1 + p3))), .second] [])) _
      refine XS.aload X386.here hx rfl (hb hby at_251) rfl rfl ?_
      show Steps p.tables e below (T386.setTop (mkF m 253 #[.val (.long p0), .second, .val (.long p1), .second, .val (.long p2), .second, .val (.long p3), .second, .val (.int p4), .val (.int c9), .val (.int c10), .val (.int c11), .val (.ref b12), .val (.ref b13), .val (.long (2 : Int64)), .second, .val (.long (if c10 = (0 : Int32) then (if c9 = (0 : Int32) then (0 : Int64) else 0 + 1) else (if c9 = (0 : Int32) then (0 : Int64) else 0 + 1) + 1)), .second, .val (.long (if p2 < p0 then p2 else p0)), .second, .val (.long (if p0 < p2 then p2 else p0)), .second, .val (.long (if p3 < p1 then p3 else p1)), .second, .val (.long (if p1 < p3 then p3 else p1)), .second, .val (.long (p0 + p2)), .second, .val (.long (p1 + p3)), .second, .val (.double (own_ratio (p0 + p2) (p1 + p3))), .second] [(.ref b13)])) _
      refine st387.trans ?_
      show Steps p.tables e below (T387.setTop (mkF m 256 #[.val (.long p0), .second, .val (.long p1), .second, .val (.long p2), .second, .val (.long p3), .second, .val (.int p4), .val (.int c9), .val (.int c10), .val (.int c11), .val (.ref b12), .val (.ref b13), .val (.long (2 : Int64)), .second, .val (.long (if c10 = (0 : Int32) then (if c9 = (0 : Int32) then (0 : Int64) else 0 + 1) else (if c9 = (0 : Int32) then (0 : Int64) else 0 + 1) + 1)), .second, .val (.long (if p2 < p0 then p2 else p0)), .second, .val (.long (if p0 < p2 then p2 else p0)), .second, .val (.long (if p3 < p1 then p3 else p1)), .second, .val (.long (if p1 < p3 then p3 else p1)), .second, .val (.long (p0 + p2)), .second, .val (.long (p1 + p3)), .second, .val (.double (own_ratio (p0 + p2) (p1 + p3))), .second] [(.long ((if p0 < p2 then p2 else p0) / (1000000 : Int64)))])) _
      refine XS.lload X387.here hx rfl (hb hby at_256) rfl ?_
      show Steps p.tables e below (T387.setTop (mkF m 258 #[.val (.long p0), .second, .val (.long p1), .second, .val (.long p2), .second, .val (.long p3), .second, .val (.int p4), .val (.int c9), .val (.int c10), .val (.int c11), .val (.ref b12), .val (.ref b13), .val (.long (2 : Int64)), .second, .val (.long (if c10 = (0 : Int32) then (if c9 = (0 : Int32) then (0 : Int64) else 0 + 1) else (if c9 = (0 : Int32) then (0 : Int64) else 0 + 1) + 1)), .second, .val (.long (if p2 < p0 then p2 else p0)), .second, .val (.long (if p0 < p2 then p2 else p0)), .second, .val (.long (if p3 < p1 then p3 else p1)), .second, .val (.long (if p1 < p3 then p3 else p1)), .second, .val (.long (p0 + p2)), .second, .val (.long (p1 + p3)), .second, .val (.double (own_ratio (p0 + p2) (p1 + p3))), .second] [(.long (if p0 < p2 then p2 else p0)), (.long ((if p0 < p2 then p2 else p0) / (1000000 : Int64)))])) _
      refine X387.ldc2Long hx hown (mvT hZ (hw _ (List.mem_of_getElem? (i := 116) rfl))) (g := (mkF m 258 #[.val (.long p0), .second, .val (.long p1), .second, .val (.long p2), .second, .val (.long p3), .second, .val (.int p4), .val (.int c9), .val (.int c10), .val (.int c11), .val (.ref b12), .val (.ref b13), .val (.long (2 : Int64)), .second, .val (.long (if c10 = (0 : Int32) then (if c9 = (0 : Int32) then (0 : Int64) else 0 + 1) else (if c9 = (0 : Int32) then (0 : Int64) else 0 + 1) + 1)), .second, .val (.long (if p2 < p0 then p2 else p0)), .second, .val (.long (if p0 < p2 then p2 else p0)), .second, .val (.long (if p3 < p1 then p3 else p1)), .second, .val (.long (if p1 < p3 then p3 else p1)), .second, .val (.long (p0 + p2)), .second, .val (.long (p1 + p3)), .second, .val (.double (own_ratio (p0 + p2) (p1 + p3))), .second] [(.long (if p0 < p2 then p2 else p0)), (.long ((if p0 < p2 then p2 else p0) / (1000000 : Int64)))])) rfl (hb hby at_258) _ ?_
      show Steps p.tables e below (T387.setTop (mkF m 261 #[.val (.long p0), .second, .val (.long p1), .second, .val (.long p2), .second, .val (.long p3), .second, .val (.int p4), .val (.int c9), .val (.int c10), .val (.int c11), .val (.ref b12), .val (.ref b13), .val (.long (2 : Int64)), .second, .val (.long (if c10 = (0 : Int32) then (if c9 = (0 : Int32) then (0 : Int64) else 0 + 1) else (if c9 = (0 : Int32) then (0 : Int64) else 0 + 1) + 1)), .second, .val (.long (if p2 < p0 then p2 else p0)), .second, .val (.long (if p0 < p2 then p2 else p0)), .second, .val (.long (if p3 < p1 then p3 else p1)), .second, .val (.long (if p1 < p3 then p3 else p1)), .second, .val (.long (p0 + p2)), .second, .val (.long (p1 + p3)), .second, .val (.double (own_ratio (p0 + p2) (p1 + p3))), .second] [(.long (1000000 : Int64)), (.long (if p0 < p2 then p2 else p0)), (.long ((if p0 < p2 then p2 else p0) / (1000000 : Int64)))])) _
      refine XS.ldiv X387.here hx rfl (hb hby at_261) rfl (by decide) ?_
      show Steps p.tables e below (T387.setTop (mkF m 262 #[.val (.long p0), .second, .val (.long p1), .second, .val (.long p2), .second, .val (.long p3), .second, .val (.int p4), .val (.int c9), .val (.int c10), .val (.int c11), .val (.ref b12), .val (.ref b13), .val (.long (2 : Int64)), .second, .val (.long (if c10 = (0 : Int32) then (if c9 = (0 : Int32) then (0 : Int64) else 0 + 1) else (if c9 = (0 : Int32) then (0 : Int64) else 0 + 1) + 1)), .second, .val (.long (if p2 < p0 then p2 else p0)), .second, .val (.long (if p0 < p2 then p2 else p0)), .second, .val (.long (if p3 < p1 then p3 else p1)), .second, .val (.long (if p1 < p3 then p3 else p1)), .second, .val (.long (p0 + p2)), .second, .val (.long (p1 + p3)), .second, .val (.double (own_ratio (p0 + p2) (p1 + p3))), .second] [(.long ((if p0 < p2 then p2 else p0) / (1000000 : Int64))), (.long ((if p0 < p2 then p2 else p0) / (1000000 : Int64)))])) _
      refine XS.lcmp X387.here hx rfl (hb hby at_262) rfl ?_
      show Steps p.tables e below (T387.setTop (mkF m 263 #[.val (.long p0), .second, .val (.long p1), .second, .val (.long p2), .second, .val (.long p3), .second, .val (.int p4), .val (.int c9), .val (.int c10), .val (.int c11), .val (.ref b12), .val (.ref b13), .val (.long (2 : Int64)), .second, .val (.long (if c10 = (0 : Int32) then (if c9 = (0 : Int32) then (0 : Int64) else 0 + 1) else (if c9 = (0 : Int32) then (0 : Int64) else 0 + 1) + 1)), .second, .val (.long (if p2 < p0 then p2 else p0)), .second, .val (.long (if p0 < p2 then p2 else p0)), .second, .val (.long (if p3 < p1 then p3 else p1)), .second, .val (.long (if p1 < p3 then p3 else p1)), .second, .val (.long (p0 + p2)), .second, .val (.long (p1 + p3)), .second, .val (.double (own_ratio (p0 + p2) (p1 + p3))), .second] [(.int (lcmpW ((if p0 < p2 then p2 else p0) / (1000000 : Int64)) ((if p0 < p2 then p2 else p0) / (1000000 : Int64))))])) _
      refine XS.ifNo X387.here hx rfl (hb hby at_263) rfl ((if0 _ _).trans (teq ((lw_eq _ _).mpr rfl)).2) ?_
      show Steps p.tables e below (T387.setTop (mkF m 266 #[.val (.long p0), .second, .val (.long p1), .second, .val (.long p2), .second, .val (.long p3), .second, .val (.int p4), .val (.int c9), .val (.int c10), .val (.int c11), .val (.ref b12), .val (.ref b13), .val (.long (2 : Int64)), .second, .val (.long (if c10 = (0 : Int32) then (if c9 = (0 : Int32) then (0 : Int64) else 0 + 1) else (if c9 = (0 : Int32) then (0 : Int64) else 0 + 1) + 1)), .second, .val (.long (if p2 < p0 then p2 else p0)), .second, .val (.long (if p0 < p2 then p2 else p0)), .second, .val (.long (if p3 < p1 then p3 else p1)), .second, .val (.long (if p1 < p3 then p3 else p1)), .second, .val (.long (p0 + p2)), .second, .val (.long (p1 + p3)), .second, .val (.double (own_ratio (p0 + p2) (p1 + p3))), .second] [])) _
      refine XS.aload X387.here hx rfl (hb hby at_266) rfl rfl ?_
      show Steps p.tables e below (T387.setTop (mkF m 268 #[.val (.long p0), .second, .val (.long p1), .second, .val (.long p2), .second, .val (.long p3), .second, .val (.int p4), .val (.int c9), .val (.int c10), .val (.int c11), .val (.ref b12), .val (.ref b13), .val (.long (2 : Int64)), .second, .val (.long (if c10 = (0 : Int32) then (if c9 = (0 : Int32) then (0 : Int64) else 0 + 1) else (if c9 = (0 : Int32) then (0 : Int64) else 0 + 1) + 1)), .second, .val (.long (if p2 < p0 then p2 else p0)), .second, .val (.long (if p0 < p2 then p2 else p0)), .second, .val (.long (if p3 < p1 then p3 else p1)), .second, .val (.long (if p1 < p3 then p3 else p1)), .second, .val (.long (p0 + p2)), .second, .val (.long (p1 + p3)), .second, .val (.double (own_ratio (p0 + p2) (p1 + p3))), .second] [(.ref b13)])) _
      refine st388.trans ?_
      show Steps p.tables e below (T388.setTop (mkF m 271 #[.val (.long p0), .second, .val (.long p1), .second, .val (.long p2), .second, .val (.long p3), .second, .val (.int p4), .val (.int c9), .val (.int c10), .val (.int c11), .val (.ref b12), .val (.ref b13), .val (.long (2 : Int64)), .second, .val (.long (if c10 = (0 : Int32) then (if c9 = (0 : Int32) then (0 : Int64) else 0 + 1) else (if c9 = (0 : Int32) then (0 : Int64) else 0 + 1) + 1)), .second, .val (.long (if p2 < p0 then p2 else p0)), .second, .val (.long (if p0 < p2 then p2 else p0)), .second, .val (.long (if p3 < p1 then p3 else p1)), .second, .val (.long (if p1 < p3 then p3 else p1)), .second, .val (.long (p0 + p2)), .second, .val (.long (p1 + p3)), .second, .val (.double (own_ratio (p0 + p2) (p1 + p3))), .second] [(.long ((if p3 < p1 then p3 else p1) / (1000000 : Int64)))])) _
      refine XS.lload X388.here hx rfl (hb hby at_271) rfl ?_
      show Steps p.tables e below (T388.setTop (mkF m 273 #[.val (.long p0), .second, .val (.long p1), .second, .val (.long p2), .second, .val (.long p3), .second, .val (.int p4), .val (.int c9), .val (.int c10), .val (.int c11), .val (.ref b12), .val (.ref b13), .val (.long (2 : Int64)), .second, .val (.long (if c10 = (0 : Int32) then (if c9 = (0 : Int32) then (0 : Int64) else 0 + 1) else (if c9 = (0 : Int32) then (0 : Int64) else 0 + 1) + 1)), .second, .val (.long (if p2 < p0 then p2 else p0)), .second, .val (.long (if p0 < p2 then p2 else p0)), .second, .val (.long (if p3 < p1 then p3 else p1)), .second, .val (.long (if p1 < p3 then p3 else p1)), .second, .val (.long (p0 + p2)), .second, .val (.long (p1 + p3)), .second, .val (.double (own_ratio (p0 + p2) (p1 + p3))), .second] [(.long (if p3 < p1 then p3 else p1)), (.long ((if p3 < p1 then p3 else p1) / (1000000 : Int64)))])) _
      refine X388.ldc2Long hx hown (mvT hZ (hw _ (List.mem_of_getElem? (i := 116) rfl))) (g := (mkF m 273 #[.val (.long p0), .second, .val (.long p1), .second, .val (.long p2), .second, .val (.long p3), .second, .val (.int p4), .val (.int c9), .val (.int c10), .val (.int c11), .val (.ref b12), .val (.ref b13), .val (.long (2 : Int64)), .second, .val (.long (if c10 = (0 : Int32) then (if c9 = (0 : Int32) then (0 : Int64) else 0 + 1) else (if c9 = (0 : Int32) then (0 : Int64) else 0 + 1) + 1)), .second, .val (.long (if p2 < p0 then p2 else p0)), .second, .val (.long (if p0 < p2 then p2 else p0)), .second, .val (.long (if p3 < p1 then p3 else p1)), .second, .val (.long (if p1 < p3 then p3 else p1)), .second, .val (.long (p0 + p2)), .second, .val (.long (p1 + p3)), .second, .val (.double (own_ratio (p0 + p2) (p1 + p3))), .second] [(.long (if p3 < p1 then p3 else p1)), (.long ((if p3 < p1 then p3 else p1) / (1000000 : Int64)))])) rfl (hb hby at_273) _ ?_
      show Steps p.tables e below (T388.setTop (mkF m 276 #[.val (.long p0), .second, .val (.long p1), .second, .val (.long p2), .second, .val (.long p3), .second, .val (.int p4), .val (.int c9), .val (.int c10), .val (.int c11), .val (.ref b12), .val (.ref b13), .val (.long (2 : Int64)), .second, .val (.long (if c10 = (0 : Int32) then (if c9 = (0 : Int32) then (0 : Int64) else 0 + 1) else (if c9 = (0 : Int32) then (0 : Int64) else 0 + 1) + 1)), .second, .val (.long (if p2 < p0 then p2 else p0)), .second, .val (.long (if p0 < p2 then p2 else p0)), .second, .val (.long (if p3 < p1 then p3 else p1)), .second, .val (.long (if p1 < p3 then p3 else p1)), .second, .val (.long (p0 + p2)), .second, .val (.long (p1 + p3)), .second, .val (.double (own_ratio (p0 + p2) (p1 + p3))), .second] [(.long (1000000 : Int64)), (.long (if p3 < p1 then p3 else p1)), (.long ((if p3 < p1 then p3 else p1) / (1000000 : Int64)))])) _
      refine XS.ldiv X388.here hx rfl (hb hby at_276) rfl (by decide) ?_
      show Steps p.tables e below (T388.setTop (mkF m 277 #[.val (.long p0), .second, .val (.long p1), .second, .val (.long p2), .second, .val (.long p3), .second, .val (.int p4), .val (.int c9), .val (.int c10), .val (.int c11), .val (.ref b12), .val (.ref b13), .val (.long (2 : Int64)), .second, .val (.long (if c10 = (0 : Int32) then (if c9 = (0 : Int32) then (0 : Int64) else 0 + 1) else (if c9 = (0 : Int32) then (0 : Int64) else 0 + 1) + 1)), .second, .val (.long (if p2 < p0 then p2 else p0)), .second, .val (.long (if p0 < p2 then p2 else p0)), .second, .val (.long (if p3 < p1 then p3 else p1)), .second, .val (.long (if p1 < p3 then p3 else p1)), .second, .val (.long (p0 + p2)), .second, .val (.long (p1 + p3)), .second, .val (.double (own_ratio (p0 + p2) (p1 + p3))), .second] [(.long ((if p3 < p1 then p3 else p1) / (1000000 : Int64))), (.long ((if p3 < p1 then p3 else p1) / (1000000 : Int64)))])) _
      refine XS.lcmp X388.here hx rfl (hb hby at_277) rfl ?_
      show Steps p.tables e below (T388.setTop (mkF m 278 #[.val (.long p0), .second, .val (.long p1), .second, .val (.long p2), .second, .val (.long p3), .second, .val (.int p4), .val (.int c9), .val (.int c10), .val (.int c11), .val (.ref b12), .val (.ref b13), .val (.long (2 : Int64)), .second, .val (.long (if c10 = (0 : Int32) then (if c9 = (0 : Int32) then (0 : Int64) else 0 + 1) else (if c9 = (0 : Int32) then (0 : Int64) else 0 + 1) + 1)), .second, .val (.long (if p2 < p0 then p2 else p0)), .second, .val (.long (if p0 < p2 then p2 else p0)), .second, .val (.long (if p3 < p1 then p3 else p1)), .second, .val (.long (if p1 < p3 then p3 else p1)), .second, .val (.long (p0 + p2)), .second, .val (.long (p1 + p3)), .second, .val (.double (own_ratio (p0 + p2) (p1 + p3))), .second] [(.int (lcmpW ((if p3 < p1 then p3 else p1) / (1000000 : Int64)) ((if p3 < p1 then p3 else p1) / (1000000 : Int64))))])) _
      refine XS.ifNo X388.here hx rfl (hb hby at_278) rfl ((if0 _ _).trans (teq ((lw_eq _ _).mpr rfl)).2) ?_
      show Steps p.tables e below (T388.setTop (mkF m 281 #[.val (.long p0), .second, .val (.long p1), .second, .val (.long p2), .second, .val (.long p3), .second, .val (.int p4), .val (.int c9), .val (.int c10), .val (.int c11), .val (.ref b12), .val (.ref b13), .val (.long (2 : Int64)), .second, .val (.long (if c10 = (0 : Int32) then (if c9 = (0 : Int32) then (0 : Int64) else 0 + 1) else (if c9 = (0 : Int32) then (0 : Int64) else 0 + 1) + 1)), .second, .val (.long (if p2 < p0 then p2 else p0)), .second, .val (.long (if p0 < p2 then p2 else p0)), .second, .val (.long (if p3 < p1 then p3 else p1)), .second, .val (.long (if p1 < p3 then p3 else p1)), .second, .val (.long (p0 + p2)), .second, .val (.long (p1 + p3)), .second, .val (.double (own_ratio (p0 + p2) (p1 + p3))), .second] [])) _
      refine XS.aload X388.here hx rfl (hb hby at_281) rfl rfl ?_
      show Steps p.tables e below (T388.setTop (mkF m 283 #[.val (.long p0), .second, .val (.long p1), .second, .val (.long p2), .second, .val (.long p3), .second, .val (.int p4), .val (.int c9), .val (.int c10), .val (.int c11), .val (.ref b12), .val (.ref b13), .val (.long (2 : Int64)), .second, .val (.long (if c10 = (0 : Int32) then (if c9 = (0 : Int32) then (0 : Int64) else 0 + 1) else (if c9 = (0 : Int32) then (0 : Int64) else 0 + 1) + 1)), .second, .val (.long (if p2 < p0 then p2 else p0)), .second, .val (.long (if p0 < p2 then p2 else p0)), .second, .val (.long (if p3 < p1 then p3 else p1)), .second, .val (.long (if p1 < p3 then p3 else p1)), .second, .val (.long (p0 + p2)), .second, .val (.long (p1 + p3)), .second, .val (.double (own_ratio (p0 + p2) (p1 + p3))), .second] [(.ref b13)])) _
      refine st389.trans ?_
      show Steps p.tables e below (T389.setTop (mkF m 286 #[.val (.long p0), .second, .val (.long p1), .second, .val (.long p2), .second, .val (.long p3), .second, .val (.int p4), .val (.int c9), .val (.int c10), .val (.int c11), .val (.ref b12), .val (.ref b13), .val (.long (2 : Int64)), .second, .val (.long (if c10 = (0 : Int32) then (if c9 = (0 : Int32) then (0 : Int64) else 0 + 1) else (if c9 = (0 : Int32) then (0 : Int64) else 0 + 1) + 1)), .second, .val (.long (if p2 < p0 then p2 else p0)), .second, .val (.long (if p0 < p2 then p2 else p0)), .second, .val (.long (if p3 < p1 then p3 else p1)), .second, .val (.long (if p1 < p3 then p3 else p1)), .second, .val (.long (p0 + p2)), .second, .val (.long (p1 + p3)), .second, .val (.double (own_ratio (p0 + p2) (p1 + p3))), .second] [(.long ((if p1 < p3 then p3 else p1) / (1000000 : Int64)))])) _
      refine XS.lload X389.here hx rfl (hb hby at_286) rfl ?_
      show Steps p.tables e below (T389.setTop (mkF m 288 #[.val (.long p0), .second, .val (.long p1), .second, .val (.long p2), .second, .val (.long p3), .second, .val (.int p4), .val (.int c9), .val (.int c10), .val (.int c11), .val (.ref b12), .val (.ref b13), .val (.long (2 : Int64)), .second, .val (.long (if c10 = (0 : Int32) then (if c9 = (0 : Int32) then (0 : Int64) else 0 + 1) else (if c9 = (0 : Int32) then (0 : Int64) else 0 + 1) + 1)), .second, .val (.long (if p2 < p0 then p2 else p0)), .second, .val (.long (if p0 < p2 then p2 else p0)), .second, .val (.long (if p3 < p1 then p3 else p1)), .second, .val (.long (if p1 < p3 then p3 else p1)), .second, .val (.long (p0 + p2)), .second, .val (.long (p1 + p3)), .second, .val (.double (own_ratio (p0 + p2) (p1 + p3))), .second] [(.long (if p1 < p3 then p3 else p1)), (.long ((if p1 < p3 then p3 else p1) / (1000000 : Int64)))])) _
      refine X389.ldc2Long hx hown (mvT hZ (hw _ (List.mem_of_getElem? (i := 116) rfl))) (g := (mkF m 288 #[.val (.long p0), .second, .val (.long p1), .second, .val (.long p2), .second, .val (.long p3), .second, .val (.int p4), .val (.int c9), .val (.int c10), .val (.int c11), .val (.ref b12), .val (.ref b13), .val (.long (2 : Int64)), .second, .val (.long (if c10 = (0 : Int32) then (if c9 = (0 : Int32) then (0 : Int64) else 0 + 1) else (if c9 = (0 : Int32) then (0 : Int64) else 0 + 1) + 1)), .second, .val (.long (if p2 < p0 then p2 else p0)), .second, .val (.long (if p0 < p2 then p2 else p0)), .second, .val (.long (if p3 < p1 then p3 else p1)), .second, .val (.long (if p1 < p3 then p3 else p1)), .second, .val (.long (p0 + p2)), .second, .val (.long (p1 + p3)), .second, .val (.double (own_ratio (p0 + p2) (p1 + p3))), .second] [(.long (if p1 < p3 then p3 else p1)), (.long ((if p1 < p3 then p3 else p1) / (1000000 : Int64)))])) rfl (hb hby at_288) _ ?_
      show Steps p.tables e below (T389.setTop (mkF m 291 #[.val (.long p0), .second, .val (.long p1), .second, .val (.long p2), .second, .val (.long p3), .second, .val (.int p4), .val (.int c9), .val (.int c10), .val (.int c11), .val (.ref b12), .val (.ref b13), .val (.long (2 : Int64)), .second, .val (.long (if c10 = (0 : Int32) then (if c9 = (0 : Int32) then (0 : Int64) else 0 + 1) else (if c9 = (0 : Int32) then (0 : Int64) else 0 + 1) + 1)), .second, .val (.long (if p2 < p0 then p2 else p0)), .second, .val (.long (if p0 < p2 then p2 else p0)), .second, .val (.long (if p3 < p1 then p3 else p1)), .second, .val (.long (if p1 < p3 then p3 else p1)), .second, .val (.long (p0 + p2)), .second, .val (.long (p1 + p3)), .second, .val (.double (own_ratio (p0 + p2) (p1 + p3))), .second] [(.long (1000000 : Int64)), (.long (if p1 < p3 then p3 else p1)), (.long ((if p1 < p3 then p3 else p1) / (1000000 : Int64)))])) _
      refine XS.ldiv X389.here hx rfl (hb hby at_291) rfl (by decide) ?_
      show Steps p.tables e below (T389.setTop (mkF m 292 #[.val (.long p0), .second, .val (.long p1), .second, .val (.long p2), .second, .val (.long p3), .second, .val (.int p4), .val (.int c9), .val (.int c10), .val (.int c11), .val (.ref b12), .val (.ref b13), .val (.long (2 : Int64)), .second, .val (.long (if c10 = (0 : Int32) then (if c9 = (0 : Int32) then (0 : Int64) else 0 + 1) else (if c9 = (0 : Int32) then (0 : Int64) else 0 + 1) + 1)), .second, .val (.long (if p2 < p0 then p2 else p0)), .second, .val (.long (if p0 < p2 then p2 else p0)), .second, .val (.long (if p3 < p1 then p3 else p1)), .second, .val (.long (if p1 < p3 then p3 else p1)), .second, .val (.long (p0 + p2)), .second, .val (.long (p1 + p3)), .second, .val (.double (own_ratio (p0 + p2) (p1 + p3))), .second] [(.long ((if p1 < p3 then p3 else p1) / (1000000 : Int64))), (.long ((if p1 < p3 then p3 else p1) / (1000000 : Int64)))])) _
      refine XS.lcmp X389.here hx rfl (hb hby at_292) rfl ?_
      show Steps p.tables e below (T389.setTop (mkF m 293 #[.val (.long p0), .second, .val (.long p1), .second, .val (.long p2), .second, .val (.long p3), .second, .val (.int p4), .val (.int c9), .val (.int c10), .val (.int c11), .val (.ref b12), .val (.ref b13), .val (.long (2 : Int64)), .second, .val (.long (if c10 = (0 : Int32) then (if c9 = (0 : Int32) then (0 : Int64) else 0 + 1) else (if c9 = (0 : Int32) then (0 : Int64) else 0 + 1) + 1)), .second, .val (.long (if p2 < p0 then p2 else p0)), .second, .val (.long (if p0 < p2 then p2 else p0)), .second, .val (.long (if p3 < p1 then p3 else p1)), .second, .val (.long (if p1 < p3 then p3 else p1)), .second, .val (.long (p0 + p2)), .second, .val (.long (p1 + p3)), .second, .val (.double (own_ratio (p0 + p2) (p1 + p3))), .second] [(.int (lcmpW ((if p1 < p3 then p3 else p1) / (1000000 : Int64)) ((if p1 < p3 then p3 else p1) / (1000000 : Int64))))])) _
      refine XS.ifNo X389.here hx rfl (hb hby at_293) rfl ((if0 _ _).trans (teq ((lw_eq _ _).mpr rfl)).2) ?_
      show Steps p.tables e below (T389.setTop (mkF m 296 #[.val (.long p0), .second, .val (.long p1), .second, .val (.long p2), .second, .val (.long p3), .second, .val (.int p4), .val (.int c9), .val (.int c10), .val (.int c11), .val (.ref b12), .val (.ref b13), .val (.long (2 : Int64)), .second, .val (.long (if c10 = (0 : Int32) then (if c9 = (0 : Int32) then (0 : Int64) else 0 + 1) else (if c9 = (0 : Int32) then (0 : Int64) else 0 + 1) + 1)), .second, .val (.long (if p2 < p0 then p2 else p0)), .second, .val (.long (if p0 < p2 then p2 else p0)), .second, .val (.long (if p3 < p1 then p3 else p1)), .second, .val (.long (if p1 < p3 then p3 else p1)), .second, .val (.long (p0 + p2)), .second, .val (.long (p1 + p3)), .second, .val (.double (own_ratio (p0 + p2) (p1 + p3))), .second] [])) _
      refine XS.aload X389.here hx rfl (hb hby at_296) rfl rfl ?_
      show Steps p.tables e below (T389.setTop (mkF m 298 #[.val (.long p0), .second, .val (.long p1), .second, .val (.long p2), .second, .val (.long p3), .second, .val (.int p4), .val (.int c9), .val (.int c10), .val (.int c11), .val (.ref b12), .val (.ref b13), .val (.long (2 : Int64)), .second, .val (.long (if c10 = (0 : Int32) then (if c9 = (0 : Int32) then (0 : Int64) else 0 + 1) else (if c9 = (0 : Int32) then (0 : Int64) else 0 + 1) + 1)), .second, .val (.long (if p2 < p0 then p2 else p0)), .second, .val (.long (if p0 < p2 then p2 else p0)), .second, .val (.long (if p3 < p1 then p3 else p1)), .second, .val (.long (if p1 < p3 then p3 else p1)), .second, .val (.long (p0 + p2)), .second, .val (.long (p1 + p3)), .second, .val (.double (own_ratio (p0 + p2) (p1 + p3))), .second] [(.ref b13)])) _
      refine st390.trans ?_
      show Steps p.tables e below (T390.setTop (mkF m 301 #[.val (.long p0), .second, .val (.long p1), .second, .val (.long p2), .second, .val (.long p3), .second, .val (.int p4), .val (.int c9), .val (.int c10), .val (.int c11), .val (.ref b12), .val (.ref b13), .val (.long (2 : Int64)), .second, .val (.long (if c10 = (0 : Int32) then (if c9 = (0 : Int32) then (0 : Int64) else 0 + 1) else (if c9 = (0 : Int32) then (0 : Int64) else 0 + 1) + 1)), .second, .val (.long (if p2 < p0 then p2 else p0)), .second, .val (.long (if p0 < p2 then p2 else p0)), .second, .val (.long (if p3 < p1 then p3 else p1)), .second, .val (.long (if p1 < p3 then p3 else p1)), .second, .val (.long (p0 + p2)), .second, .val (.long (p1 + p3)), .second, .val (.double (own_ratio (p0 + p2) (p1 + p3))), .second] [(.double (own_ratio (p0 + p2) (p1 + p3)))])) _
      refine XS.dload X390.here hx rfl (hb hby at_301) rfl ?_
      show Steps p.tables e below (T390.setTop (mkF m 303 #[.val (.long p0), .second, .val (.long p1), .second, .val (.long p2), .second, .val (.long p3), .second, .val (.int p4), .val (.int c9), .val (.int c10), .val (.int c11), .val (.ref b12), .val (.ref b13), .val (.long (2 : Int64)), .second, .val (.long (if c10 = (0 : Int32) then (if c9 = (0 : Int32) then (0 : Int64) else 0 + 1) else (if c9 = (0 : Int32) then (0 : Int64) else 0 + 1) + 1)), .second, .val (.long (if p2 < p0 then p2 else p0)), .second, .val (.long (if p0 < p2 then p2 else p0)), .second, .val (.long (if p3 < p1 then p3 else p1)), .second, .val (.long (if p1 < p3 then p3 else p1)), .second, .val (.long (p0 + p2)), .second, .val (.long (p1 + p3)), .second, .val (.double (own_ratio (p0 + p2) (p1 + p3))), .second] [(.double (own_ratio (p0 + p2) (p1 + p3))), (.double (own_ratio (p0 + p2) (p1 + p3)))])) _
      refine XS.dcmpS X390.here hx rfl (v := (0 : Int32)) (hb hby at_303) rfl (dcmpV_eq rfl (own_ratioN _ _) _) ?_
      show Steps p.tables e below (T390.setTop (mkF m 304 #[.val (.long p0), .second, .val (.long p1), .second, .val (.long p2), .second, .val (.long p3), .second, .val (.int p4), .val (.int c9), .val (.int c10), .val (.int c11), .val (.ref b12), .val (.ref b13), .val (.long (2 : Int64)), .second, .val (.long (if c10 = (0 : Int32) then (if c9 = (0 : Int32) then (0 : Int64) else 0 + 1) else (if c9 = (0 : Int32) then (0 : Int64) else 0 + 1) + 1)), .second, .val (.long (if p2 < p0 then p2 else p0)), .second, .val (.long (if p0 < p2 then p2 else p0)), .second, .val (.long (if p3 < p1 then p3 else p1)), .second, .val (.long (if p1 < p3 then p3 else p1)), .second, .val (.long (p0 + p2)), .second, .val (.long (p1 + p3)), .second, .val (.double (own_ratio (p0 + p2) (p1 + p3))), .second] [(.int (0 : Int32))])) _
      refine XS.ifNo X390.here hx rfl (hb hby at_304) rfl ((if0 _ _).trans (teq rfl).2) ?_
      show Steps p.tables e below (T390.setTop (mkF m 307 #[.val (.long p0), .second, .val (.long p1), .second, .val (.long p2), .second, .val (.long p3), .second, .val (.int p4), .val (.int c9), .val (.int c10), .val (.int c11), .val (.ref b12), .val (.ref b13), .val (.long (2 : Int64)), .second, .val (.long (if c10 = (0 : Int32) then (if c9 = (0 : Int32) then (0 : Int64) else 0 + 1) else (if c9 = (0 : Int32) then (0 : Int64) else 0 + 1) + 1)), .second, .val (.long (if p2 < p0 then p2 else p0)), .second, .val (.long (if p0 < p2 then p2 else p0)), .second, .val (.long (if p3 < p1 then p3 else p1)), .second, .val (.long (if p1 < p3 then p3 else p1)), .second, .val (.long (p0 + p2)), .second, .val (.long (p1 + p3)), .second, .val (.double (own_ratio (p0 + p2) (p1 + p3))), .second] [])) _
      refine XS.iconst X390.here hx rfl (hb hby at_307) ?_
      show Steps p.tables e below (T390.setTop (mkF m 308 #[.val (.long p0), .second, .val (.long p1), .second, .val (.long p2), .second, .val (.long p3), .second, .val (.int p4), .val (.int c9), .val (.int c10), .val (.int c11), .val (.ref b12), .val (.ref b13), .val (.long (2 : Int64)), .second, .val (.long (if c10 = (0 : Int32) then (if c9 = (0 : Int32) then (0 : Int64) else 0 + 1) else (if c9 = (0 : Int32) then (0 : Int64) else 0 + 1) + 1)), .second, .val (.long (if p2 < p0 then p2 else p0)), .second, .val (.long (if p0 < p2 then p2 else p0)), .second, .val (.long (if p3 < p1 then p3 else p1)), .second, .val (.long (if p1 < p3 then p3 else p1)), .second, .val (.long (p0 + p2)), .second, .val (.long (p1 + p3)), .second, .val (.double (own_ratio (p0 + p2) (p1 + p3))), .second] [(.int (1 : Int32))])) _
      refine XS.goto X390.here hx rfl (pc0 := 308) (pc' := 312) rfl (hb hby at_308) (by decide) (by decide) ?_
      show Steps p.tables e below (T390.setTop (mkF m 312 #[.val (.long p0), .second, .val (.long p1), .second, .val (.long p2), .second, .val (.long p3), .second, .val (.int p4), .val (.int c9), .val (.int c10), .val (.int c11), .val (.ref b12), .val (.ref b13), .val (.long (2 : Int64)), .second, .val (.long (if c10 = (0 : Int32) then (if c9 = (0 : Int32) then (0 : Int64) else 0 + 1) else (if c9 = (0 : Int32) then (0 : Int64) else 0 + 1) + 1)), .second, .val (.long (if p2 < p0 then p2 else p0)), .second, .val (.long (if p0 < p2 then p2 else p0)), .second, .val (.long (if p3 < p1 then p3 else p1)), .second, .val (.long (if p1 < p3 then p3 else p1)), .second, .val (.long (p0 + p2)), .second, .val (.long (p1 + p3)), .second, .val (.double (own_ratio (p0 + p2) (p1 + p3))), .second] [(.int (1 : Int32))])) _
      exact retN X390 hx (t := .boolean) hret0 (by simp) (hb hby at_312) hr
    · show Q0 n0 _ T390.heap _
      rw [eh390]
      exact ⟨rfl, N390⟩
set_option maxRecDepth 65536 in
set_option maxHeartbeats 40000000 in
theorem comes_1 {Post : Tables → Env → Array Value → State → Outcome → State → Prop} (hpost : ∀ tb e args s v u, (limb_1_1.after args s (.returned v) u = true ∧ limb_1_2.after args s (.returned v) u = true ∧ True) → FrameEnd s (.returned v) u (Jvm.fieldLocs frame_1_writes args s ++ Jvm.arrayLocs frame_1_arrays args s ++ Jvm.staticLocs frame_1_statics s) 24 4224 → Post tb e args s (.returned v) u) :
    ArmFor flags0 classFile x code maxLocals ret World_1 tables_1 room_1 Calls_1 rest_1 Pre_1 Post := by
  intro l hfl _ _ p e ha hc hk s m args below hf hA hF happ hP
  obtain ⟨hcalls, hrest, hpre⟩ := hP
  obtain ⟨-, -, -, hnamed, -, -, -, hat⟩ := (Spec.applies_iff hf).mp happ
  obtain ⟨hg, hn⟩ := and_e (Cond.before_iff.mp (show (Jvm.Cond.and given_1 narrow_1).before args s = true from hpre))
  obtain ⟨g0, r0⟩ := and_e hg
  obtain ⟨g1, r1⟩ := and_e r0
  obtain ⟨g2, r2⟩ := and_e r1
  obtain ⟨g3, r3⟩ := and_e r2
  obtain ⟨g4, r4⟩ := and_e r3
  obtain ⟨w0, w1, w2, w3, w4, rfl⟩ : ∃ w0 w1 w2 w3 w4 : Value, args = #[w0, w1, w2, w3, w4] := by
    have hs : args.size = 5 := by simpa [Cond.value, given_1] using g0
    obtain ⟨L⟩ := args
    match L, hs with
    | [w0, w1, w2, w3, w4], _ => exact ⟨w0, w1, w2, w3, w4, rfl⟩
  have hw := fun d (hd : d ∈ tables_1) => atoms_spec (ws := Jvm.Cond.code x code maxLocals ret :: tables_1) hat d (List.mem_cons_of_mem _ hd)
  have hfit : Fit s := fun {y c} hc i hi => by
    obtain ⟨ha, rfl⟩ := Array.getElem?_eq_some_iff.mp hc
    have q := List.all_eq_true.mp ((Array.all_eq_true_iff_forall_mem.mp hF) _ (Array.getElem_mem ha)) i (List.mem_range.mpr hi)
    simpa [Array.getElem?_eq_getElem hi] using q
  obtain ⟨hsets, hown0⟩ := atoms_of _ (rest_1_c_eq ▸ (show rest_1_c.before _ s = true from hrest))
  have hr0 := Cond.before_iff.mp hown0
  obtain ⟨i0, ei0⟩ := isL_v g1
  obtain rfl : w0 = (.long i0) := Option.some.inj ei0
  obtain ⟨i1, ei1⟩ := isL_v g2
  obtain rfl : w1 = (.long i1) := Option.some.inj ei1
  obtain ⟨i2, ei2⟩ := isL_v g3
  obtain rfl : w2 = (.long i2) := Option.some.inj ei2
  obtain ⟨i3, ei3⟩ := isL_v g4
  obtain rfl : w3 = (.long i3) := Option.some.inj ei3
  obtain ⟨i4, ei4⟩ := is_v r4
  obtain rfl : w4 = (.int i4) := Option.some.inj ei4
  have hxt := Cond.before_iff.mp (hsets _ (List.mem_of_getElem? (i := 2) rfl))
  obtain ⟨tu, etu⟩ : ∃ tu, (Jvm.Term.static "java/util/concurrent/TimeUnit" "NANOSECONDS" "Ljava/util/concurrent/TimeUnit;").eval _ s none [] s = some (.ref tu) := by
    obtain ⟨a', c', cell, k, e1, -⟩ := Cond.exactly_spec (hsets _ (List.mem_of_getElem? (i := 2) rfl))
    exact ⟨a', e1⟩
  have O6 : Sta s s.heap "java/util/concurrent/TimeUnit" "NANOSECONDS" "Ljava/util/concurrent/TimeUnit;" (.ref tu) := Sta.start etu (Or.inl (hsets _ (List.mem_of_getElem? (i := 1) rfl)))
  have ET := Exa.start etu hxt
  have FT1 : Fld s s.heap tu "java/util/concurrent/TimeUnit" "scale" "J" (.long (1 : Int64)) := Fld.start ((fld_at etu).symm.trans (eqv_l (long_at 1) (Cond.before_iff.mp (hsets _ (List.mem_of_getElem? (i := 5) rfl)))))
  have FT2 : Fld s s.heap tu "java/util/concurrent/TimeUnit" "milliRatio" "I" (.int (1000000 : Int32)) := Fld.start ((fld_at etu).symm.trans (eqv_i (Term.int_eval 1000000) (Cond.before_iff.mp (hsets _ (List.mem_of_getElem? (i := 9) rfl)))))
  obtain ⟨n, o, h1, h2, h3, _, L, rfl, ⟨rfl, N⟩, hq⟩ := rm0 l s _ hw tables_1 i0 i1 i2 i3 i4 tu s.heap s.heap.size (Nat.le_refl _) O6 ET FT1 FT2 (Old.start s) p e ha hc hk s m _ below hf ((Spec.applies_iff_loose hf).mp happ).1 ⟨rfl, State.Warmed39.refl s, rfl⟩ trivial
  refine ⟨n, _, h1, h2, h3, hpost _ _ _ _ _ _ ⟨Cond.after_iff.mpr rfl, Cond.after_iff.mpr (eq_i res_at (Term.int_eval (1)) rfl), trivial⟩ ⟨hq.1, hq.2.1, (hq.2.2.sift fun y hy => Or.inr (N y hy)).mono (by decide) (by decide)⟩⟩
theorem main_1_1 : Claimed_1_1 := comes_1 fun _ _ _ _ _ _ h hF => ⟨h.1, hF⟩
theorem main_1_2 : Claimed_1_2 := comes_1 fun _ _ _ _ _ _ h hF => ⟨h.2.1, hF⟩
end Jvm.Pilot.@@N@@
namespace Jvm.Pilot.@@N@@
open Jvm Jvm.ClassFile Sem Op Lib Jvm.Free Jvm.Stand Jvm.Pilot.@@N@@.Jvm.D
/-! MADE BY PROGRAM (witnessworld.py) out of the Statement's table words and the real class files: 21 classes; the members and pool entries that the words name. The judged class is class 1, her method 1. -/
namespace start1
open Jvm.ClassFile
def u (s : String) : CpInfo := .utf8 (stringToUtf16 s)
/-- a pool by its gaps: so many unusable entries, then the entry; so many at the end -/
def gap : Nat → List CpInfo → List CpInfo
  | 0, r => r
  | n + 1, r => .unusable :: gap n r
def poolList (es : List (Nat × CpInfo)) (last : Nat) : List CpInfo := es.foldr (fun e r => gap e.1 (e.2 :: r)) (gap last [])
def pool (es : List (Nat × CpInfo)) (last : Nat) : Array CpInfo := ⟨poolList es last⟩
def fileOf (pool : Array CpInfo) (this : Nat) (attrs : Array Attribute := #[]) (ms : Array MethodInfo := #[]) (fl : Nat := 33) (sup : Nat := 0) (ifs : Array Nat := #[]) (fds : Array FieldInfo := #[]) : ClassFile where
  minorVersion := 0
  majorVersion := 65
  constantPool := pool
  accessFlags := fl
  thisClass := this
  superClass := sup
  interfaces := ifs
  fields := fds
  methods := ms
  attributes := attrs
def plain (name : String) (sup : Option ClassId) : Class where
  name := name
  kind := .ordinary
  loader := none
  accessFlags := 33
  super := sup
  interfaces := #[]
  cf := none
  fields := #[]
  methods := #[]
  instanceTypes := #[]
  staticTypes := #[]
  resolved := #[]
  callSites := []
  init := .initialized
  statics := none
  mirror := none

def pool0 : Array CpInfo := pool [(5, u "<init>"), (0, u "()V"), (1, .class_ 10), (1, u "java/lang/Object")] 113

def k0c0 : Code := { maxStack := 0, maxLocals := 1, code := object_method_1_code, exceptionTable := #[], attributes := #[] }
def k0m0 : Method := { name := "<init>", desc := "()V", sig := { parameters := [], returnType := none }, accessFlags := 1, code := some k0c0 }
/-- java/lang/Object -/
def k0 : Class := { plain "java/lang/Object" none with
  accessFlags := 33
  interfaces := #[]
  cf := some (fileOf pool0 8 #[] #[{ accessFlags := 1, nameIndex := 5, descriptorIndex := 6, attributes := #[] }] 33 0 #[] #[])
  fields := #[]
  methods := #[k0m0]
  instanceTypes := #[]
  staticTypes := #[]
  resolved := Array.replicate 124 none
  statics := none }

def pool1 : Array CpInfo := pool [(2, .class_ 4), (0, .nameAndType 5 6), (0, u "java/lang/Object"), (0, u "<init>"), (0, u "()V"), (0, .class_ 8), (0, u "com/example/nosy_pool/nosypool/CheckoutHistory"), (0, .methodref 7 3), (0, .methodref 7 11), (0, .nameAndType 12 13), (0, u "record"), (0, u "(JJZ)V"), (0, .methodref 7 15), (0, .nameAndType 16 17), (0, u "statistics"), (0, u "()Lcom/example/nosy_pool/nosypool/CheckoutStatistics;"), (0, .long 2), (1, .methodref 21 22), (0, .class_ 23), (0, .nameAndType 24 25), (0, u "java/lang/Math"), (0, u "min"), (0, u "(JJ)J"), (0, .methodref 21 27), (0, .nameAndType 28 25), (0, u "max"), (0, .methodref 30 31), (0, .class_ 32), (0, .nameAndType 33 34), (0, u "com/example/nosy_pool/nosypool/CheckoutStatistics"), (0, u "count"), (0, u "()J"), (0, .methodref 30 36), (0, .nameAndType 37 34), (0, u "rolledBack"), (0, .methodref 30 39), (0, .nameAndType 40 34), (0, u "holdP50Ms"), (0, .long 1000000), (1, .methodref 30 44), (0, .nameAndType 45 34), (0, u "holdP99Ms"), (0, .methodref 30 47), (0, .nameAndType 48 34), (0, u "busyP50Ms"), (0, .methodref 30 50), (0, .nameAndType 51 34), (0, u "busyP99Ms"), (0, .methodref 30 53), (0, .nameAndType 54 55), (0, u "busyRatio"), (0, u "()D"), (0, .class_ 57), (0, u "com/example/nosy_pool/nosypool/CheckoutHistoryRecordPinLaw"), (2, u "law"), (0, u "(JJJJI)Z")] 3

def k1m0 : Method := { name := "<init>", desc := "()V", sig := { parameters := [], returnType := none }, accessFlags := 1, code := none }
def k1c1 : Code := { maxStack := 6, maxLocals := 32, code := code, exceptionTable := #[], attributes := #[] }
def k1m1 : Method := { name := "law", desc := "(JJJJI)Z", sig := { parameters := [.long, .long, .long, .long, .int], returnType := some .boolean }, accessFlags := 9, code := some k1c1 }
/-- com/example/nosy_pool/nosypool/CheckoutHistoryRecordPinLaw -/
def k1 : Class := { plain "com/example/nosy_pool/nosypool/CheckoutHistoryRecordPinLaw" (some 0) with
  accessFlags := 49
  interfaces := #[]
  cf := some (fileOf pool1 56 #[] #[{ accessFlags := 1, nameIndex := 5, descriptorIndex := 6, attributes := #[] }, { accessFlags := 9, nameIndex := 60, descriptorIndex := 61, attributes := #[] }] 49 2 #[] #[])
  fields := #[]
  methods := #[k1m0, k1m1]
  instanceTypes := #[]
  staticTypes := #[]
  resolved := Array.replicate 65 none
  statics := none }

def pool2 : Array CpInfo := pool [(1, .class_ 2), (0, u "com/example/nosy_pool/nosypool/CheckoutStatistics"), (0, .methodref 4 5), (0, .class_ 6), (0, .nameAndType 7 8), (0, u "com/example/nosy_pool/nosypool/CheckoutHistory"), (0, u "<init>"), (0, u "([J[JJJ)V"), (0, .methodref 10 11), (0, .class_ 12), (0, .nameAndType 7 13), (0, u "java/lang/Object"), (0, u "()V"), (0, .fieldref 4 15), (0, .nameAndType 16 17), (0, u "holdNanos"), (0, u "[J"), (0, .fieldref 4 19), (0, .nameAndType 20 17), (0, u "busyNanos"), (0, .fieldref 4 22), (0, .nameAndType 23 24), (0, u "count"), (0, u "J"), (0, .fieldref 4 26), (0, .nameAndType 27 24), (0, u "rolledBack"), (0, .long 1024), (6, .methodref 36 37), (0, .class_ 38), (0, .nameAndType 39 40), (0, u "java/lang/Math"), (0, u "min"), (0, u "(JJ)J"), (4, .methodref 46 47), (0, .class_ 48), (0, .nameAndType 49 50), (0, u "java/util/Arrays"), (0, u "copyOf"), (0, u "([JI)[J"), (0, .methodref 46 52), (0, .nameAndType 53 54), (0, u "sort"), (0, u "([J)V"), (0, .methodref 4 56), (0, .nameAndType 57 58), (0, u "percentileMs"), (0, u "([JI)J"), (0, .methodref 1 60), (0, .nameAndType 7 61), (0, u "(JJJJJJD)V"), (0, .fieldref 63 64), (0, .class_ 65), (0, .nameAndType 66 67), (0, u "java/util/concurrent/TimeUnit"), (0, u "NANOSECONDS"), (0, u "Ljava/util/concurrent/TimeUnit;"), (0, .methodref 63 69), (0, .nameAndType 70 71), (0, u "toMillis"), (0, u "(J)J"), (2, u "record"), (0, u "(JJZ)V"), (3, u "statistics"), (0, u "()Lcom/example/nosy_pool/nosypool/CheckoutStatistics;")] 2

def k2c0 : Code := { maxStack := 7, maxLocals := 1, code := prog_1_method_1_code, exceptionTable := #[], attributes := #[] }
def k2m0 : Method := { name := "<init>", desc := "()V", sig := { parameters := [], returnType := none }, accessFlags := 0, code := some k2c0 }
def k2c1 : Code := { maxStack := 3, maxLocals := 7, code := prog_1_method_2_code, exceptionTable := #[], attributes := #[] }
def k2m1 : Method := { name := "<init>", desc := "([J[JJJ)V", sig := { parameters := [(.array .long), (.array .long), .long, .long], returnType := none }, accessFlags := 2, code := some k2c1 }
def k2c2 : Code := { maxStack := 5, maxLocals := 7, code := prog_1_method_3_code, exceptionTable := #[], attributes := #[] }
def k2m2 : Method := { name := "record", desc := "(JJZ)V", sig := { parameters := [.long, .long, .boolean], returnType := none }, accessFlags := 0, code := some k2c2 }
def k2c3 : Code := { maxStack := 16, maxLocals := 10, code := prog_1_method_5_code, exceptionTable := #[], attributes := #[] }
def k2m3 : Method := { name := "statistics", desc := "()Lcom/example/nosy_pool/nosypool/CheckoutStatistics;", sig := { parameters := [], returnType := some (.object "com/example/nosy_pool/nosypool/CheckoutStatistics") }, accessFlags := 0, code := some k2c3 }
def k2c4 : Code := { maxStack := 4, maxLocals := 3, code := prog_1_method_6_code, exceptionTable := #[], attributes := #[] }
def k2m4 : Method := { name := "percentileMs", desc := "([JI)J", sig := { parameters := [(.array .long), .int], returnType := some .long }, accessFlags := 10, code := some k2c4 }
/-- com/example/nosy_pool/nosypool/CheckoutHistory -/
def k2 : Class := { plain "com/example/nosy_pool/nosypool/CheckoutHistory" (some 0) with
  accessFlags := 32
  interfaces := #[]
  cf := some (fileOf pool2 4 #[] #[{ accessFlags := 0, nameIndex := 7, descriptorIndex := 13, attributes := #[] }, { accessFlags := 2, nameIndex := 7, descriptorIndex := 8, attributes := #[] }, { accessFlags := 0, nameIndex := 74, descriptorIndex := 75, attributes := #[] }, { accessFlags := 0, nameIndex := 79, descriptorIndex := 80, attributes := #[] }, { accessFlags := 10, nameIndex := 57, descriptorIndex := 58, attributes := #[] }] 32 10 #[] #[{ accessFlags := 18, nameIndex := 16, descriptorIndex := 17, attributes := #[] }, { accessFlags := 18, nameIndex := 20, descriptorIndex := 17, attributes := #[] }, { accessFlags := 2, nameIndex := 23, descriptorIndex := 24, attributes := #[] }, { accessFlags := 2, nameIndex := 27, descriptorIndex := 24, attributes := #[] }])
  fields := #[{ name := "holdNanos", type := (.array .long), accessFlags := 18, slot := 0, constantValue := 0 }, { name := "busyNanos", type := (.array .long), accessFlags := 18, slot := 1, constantValue := 0 }, { name := "count", type := .long, accessFlags := 2, slot := 2, constantValue := 0 }, { name := "rolledBack", type := .long, accessFlags := 2, slot := 3, constantValue := 0 }]
  methods := #[k2m0, k2m1, k2m2, k2m3, k2m4]
  instanceTypes := #[(.array .long), (.array .long), .long, .long]
  staticTypes := #[]
  resolved := Array.replicate 83 none
  statics := none }

def pool3 : Array CpInfo := pool [(1, .class_ 2), (0, u "java/lang/Math"), (1, .class_ 6), (1, u "java/lang/Object"), (0, u "<init>"), (0, u "()V"), (89, .class_ 100), (1, u "java/lang/Math$RandomNumberGeneratorHolder"), (20, u "(JJ)J"), (50, u "negativeZeroFloatBits"), (0, u "J"), (2, u "negativeZeroDoubleBits"), (21, u "max"), (2, u "min"), (43, u "$assertionsDisabled"), (0, u "Z"), (88, u "(II)I"), (2, u "twoToTheDoubleScaleDown"), (0, u "D"), (4, u "twoToTheDoubleScaleUp"), (9, u "E"), (3, u "PI"), (2, u "TAU"), (2, u "DEGREES_TO_RADIANS"), (0, u "RADIANS_TO_DEGREES")] 94

def k3m0 : Method := { name := "<init>", desc := "()V", sig := { parameters := [], returnType := none }, accessFlags := 2, code := none }
def k3c1 : Code := { maxStack := 4, maxLocals := 4, code := jdk_29_method_66_code, exceptionTable := #[], attributes := #[] }
def k3m1 : Method := { name := "max", desc := "(JJ)J", sig := { parameters := [.long, .long], returnType := some .long }, accessFlags := 9, code := some k3c1 }
def k3c2 : Code := { maxStack := 2, maxLocals := 2, code := jdk_29_method_69_code, exceptionTable := #[], attributes := #[] }
def k3m2 : Method := { name := "min", desc := "(II)I", sig := { parameters := [.int, .int], returnType := some .int }, accessFlags := 9, code := some k3c2 }
def k3c3 : Code := { maxStack := 4, maxLocals := 4, code := jdk_29_method_70_code, exceptionTable := #[], attributes := #[] }
def k3m3 : Method := { name := "min", desc := "(JJ)J", sig := { parameters := [.long, .long], returnType := some .long }, accessFlags := 9, code := some k3c3 }
/-- java/lang/Math -/
def k3 : Class := { plain "java/lang/Math" (some 0) with
  accessFlags := 49
  interfaces := #[]
  cf := some (fileOf pool3 1 #[.nestMembers #[98]] #[{ accessFlags := 2, nameIndex := 7, descriptorIndex := 8, attributes := #[] }, { accessFlags := 9, nameIndex := 198, descriptorIndex := 121, attributes := #[] }, { accessFlags := 9, nameIndex := 201, descriptorIndex := 335, attributes := #[] }, { accessFlags := 9, nameIndex := 201, descriptorIndex := 121, attributes := #[] }] 49 4 #[] #[{ accessFlags := 25, nameIndex := 354, descriptorIndex := 339, attributes := #[] }, { accessFlags := 25, nameIndex := 358, descriptorIndex := 339, attributes := #[] }, { accessFlags := 25, nameIndex := 361, descriptorIndex := 339, attributes := #[] }, { accessFlags := 26, nameIndex := 364, descriptorIndex := 339, attributes := #[] }, { accessFlags := 26, nameIndex := 365, descriptorIndex := 339, attributes := #[] }, { accessFlags := 26, nameIndex := 172, descriptorIndex := 173, attributes := #[] }, { accessFlags := 26, nameIndex := 176, descriptorIndex := 173, attributes := #[] }, { accessFlags := 8, nameIndex := 344, descriptorIndex := 339, attributes := #[] }, { accessFlags := 8, nameIndex := 338, descriptorIndex := 339, attributes := #[] }, { accessFlags := 4120, nameIndex := 245, descriptorIndex := 246, attributes := #[] }])
  fields := #[{ name := "E", type := .double, accessFlags := 25, slot := 0, constantValue := 0 }, { name := "PI", type := .double, accessFlags := 25, slot := 1, constantValue := 0 }, { name := "TAU", type := .double, accessFlags := 25, slot := 2, constantValue := 0 }, { name := "DEGREES_TO_RADIANS", type := .double, accessFlags := 26, slot := 3, constantValue := 0 }, { name := "RADIANS_TO_DEGREES", type := .double, accessFlags := 26, slot := 4, constantValue := 0 }, { name := "negativeZeroFloatBits", type := .long, accessFlags := 26, slot := 5, constantValue := 0 }, { name := "negativeZeroDoubleBits", type := .long, accessFlags := 26, slot := 6, constantValue := 0 }, { name := "twoToTheDoubleScaleUp", type := .double, accessFlags := 8, slot := 7, constantValue := 0 }, { name := "twoToTheDoubleScaleDown", type := .double, accessFlags := 8, slot := 8, constantValue := 0 }, { name := "$assertionsDisabled", type := .boolean, accessFlags := 4120, slot := 9, constantValue := 0 }]
  methods := #[k3m0, k3m1, k3m2, k3m3]
  instanceTypes := #[]
  staticTypes := #[.double, .double, .double, .double, .double, .long, .long, .double, .double, .boolean]
  resolved := Array.replicate 460 none
  statics := none }

def pool4 : Array CpInfo := pool [(2, .class_ 4), (1, u "java/lang/Object"), (0, u "<init>"), (0, u "()V"), (1, .class_ 10), (1, u "java/util/DualPivotQuicksort"), (0, u "sort"), (2, .class_ 16), (1, u "java/util/Arrays"), (2, .methodref 8 20), (0, .nameAndType 11 21), (0, u "([JIII)V"), (52, .class_ 76), (1, u "java/util/Arrays$NaturalOrder"), (36, .class_ 115), (1, u "java/util/Arrays$LegacyMergeSort"), (1, u "Z"), (32, .methodref 151 152), (0, .class_ 153), (0, .nameAndType 154 155), (0, u "java/lang/System"), (0, u "arraycopy"), (0, u "(Ljava/lang/Object;ILjava/lang/Object;II)V"), (146, u "copyOf"), (1, .methodref 305 306), (0, .class_ 307), (0, .nameAndType 308 309), (0, u "java/lang/Math"), (0, u "min"), (0, u "(II)I"), (65, .class_ 376), (0, u "java/util/Arrays$ArrayList"), (68, u "$assertionsDisabled"), (269, u "MIN_ARRAY_SORT_GRAN"), (0, u "I"), (2, u "INSERTIONSORT_THRESHOLD"), (11, u "([J)V"), (140, u "([JI)[J"), (102, .class_ 976), (0, u "java/util/Arrays$ArrayItr")] 52

def k4m0 : Method := { name := "<init>", desc := "()V", sig := { parameters := [], returnType := none }, accessFlags := 2, code := none }
def k4c1 : Code := { maxStack := 4, maxLocals := 1, code := jdk_65_method_4_code, exceptionTable := #[], attributes := #[] }
def k4m1 : Method := { name := "sort", desc := "([J)V", sig := { parameters := [(.array .long)], returnType := none }, accessFlags := 9, code := some k4c1 }
def k4c2 : Code := { maxStack := 6, maxLocals := 3, code := jdk_65_method_124_code, exceptionTable := #[], attributes := #[] }
def k4m2 : Method := { name := "copyOf", desc := "([JI)[J", sig := { parameters := [(.array .long), .int], returnType := some (.array .long) }, accessFlags := 9, code := some k4c2 }
/-- java/util/Arrays -/
def k4 : Class := { plain "java/util/Arrays" (some 0) with
  accessFlags := 49
  interfaces := #[]
  cf := some (fileOf pool4 14 #[.nestMembers #[975, 375, 113, 74]] #[{ accessFlags := 2, nameIndex := 5, descriptorIndex := 6, attributes := #[] }, { accessFlags := 9, nameIndex := 11, descriptorIndex := 731, attributes := #[] }, { accessFlags := 9, nameIndex := 302, descriptorIndex := 872, attributes := #[] }] 49 2 #[] #[{ accessFlags := 26, nameIndex := 715, descriptorIndex := 716, attributes := #[] }, { accessFlags := 26, nameIndex := 719, descriptorIndex := 716, attributes := #[] }, { accessFlags := 4120, nameIndex := 445, descriptorIndex := 117, attributes := #[] }])
  fields := #[{ name := "MIN_ARRAY_SORT_GRAN", type := .int, accessFlags := 26, slot := 0, constantValue := 0 }, { name := "INSERTIONSORT_THRESHOLD", type := .int, accessFlags := 26, slot := 1, constantValue := 0 }, { name := "$assertionsDisabled", type := .boolean, accessFlags := 4120, slot := 2, constantValue := 0 }]
  methods := #[k4m0, k4m1, k4m2]
  instanceTypes := #[]
  staticTypes := #[.int, .int, .boolean]
  resolved := Array.replicate 1029 none
  statics := none }

def pool5 : Array CpInfo := pool [(2, .class_ 4), (1, u "java/lang/Object"), (0, u "<init>"), (0, u "()V"), (1, .class_ 10), (1, u "java/lang/System"), (0, u "allowSecurityManager"), (0, u "I"), (16, u "cons"), (0, u "Ljava/io/Console;"), (77, .class_ 110), (1, u "java/lang/System$CallersHolder"), (43, u "initialErrStream"), (0, u "Ljava/io/PrintStream;"), (19, u "security"), (0, u "Ljava/lang/SecurityManager;"), (31, .class_ 209), (0, u "java/lang/System$1"), (7, u "props"), (0, u "Ljava/util/Properties;"), (2, u "lineSeparator"), (0, u "Ljava/lang/String;"), (96, .class_ 321), (1, u "java/lang/System$LoggerFinder"), (5, .class_ 328), (0, u "java/lang/System$Logger"), (67, u "err"), (2, u "out"), (91, u "notSupportedJnuEncoding"), (15, u "in"), (17, u "initialIn"), (0, u "Ljava/io/InputStream;"), (35, u "bootLayer"), (0, u "Ljava/lang/ModuleLayer;"), (99, .class_ 664), (0, u "java/lang/System$2"), (9, u "NEVER"), (2, u "MAYBE"), (49, u "arraycopy"), (0, u "(Ljava/lang/Object;ILjava/lang/Object;II)V"), (72, .class_ 802), (0, u "java/lang/System$Logger$Level")] 31

def k5m0 : Method := { name := "<init>", desc := "()V", sig := { parameters := [], returnType := none }, accessFlags := 2, code := none }
def k5m1 : Method := { name := "arraycopy", desc := "(Ljava/lang/Object;ILjava/lang/Object;II)V", sig := { parameters := [(.object "java/lang/Object"), .int, (.object "java/lang/Object"), .int, .int], returnType := none }, accessFlags := 265, code := none }
/-- java/lang/System -/
def k5 : Class := { plain "java/lang/System" (some 0) with
  accessFlags := 49
  interfaces := #[]
  cf := some (fileOf pool5 8 #[.nestMembers #[319, 327, 801, 108, 663, 208]] #[{ accessFlags := 2, nameIndex := 5, descriptorIndex := 6, attributes := #[] }, { accessFlags := 265, nameIndex := 727, descriptorIndex := 728, attributes := #[] }] 49 2 #[] #[{ accessFlags := 25, nameIndex := 507, descriptorIndex := 526, attributes := #[] }, { accessFlags := 25, nameIndex := 399, descriptorIndex := 155, attributes := #[] }, { accessFlags := 25, nameIndex := 396, descriptorIndex := 155, attributes := #[] }, { accessFlags := 10, nameIndex := 525, descriptorIndex := 526, attributes := #[] }, { accessFlags := 26, nameIndex := 674, descriptorIndex := 12, attributes := #[] }, { accessFlags := 26, nameIndex := 677, descriptorIndex := 12, attributes := #[] }, { accessFlags := 10, nameIndex := 11, descriptorIndex := 12, attributes := #[] }, { accessFlags := 74, nameIndex := 175, descriptorIndex := 176, attributes := #[] }, { accessFlags := 10, nameIndex := 491, descriptorIndex := 222, attributes := #[] }, { accessFlags := 74, nameIndex := 29, descriptorIndex := 30, attributes := #[] }, { accessFlags := 74, nameIndex := 154, descriptorIndex := 155, attributes := #[] }, { accessFlags := 10, nameIndex := 217, descriptorIndex := 218, attributes := #[] }, { accessFlags := 10, nameIndex := 221, descriptorIndex := 222, attributes := #[] }, { accessFlags := 8, nameIndex := 562, descriptorIndex := 563, attributes := #[] }])
  fields := #[{ name := "in", type := (.object "java/io/InputStream"), accessFlags := 25, slot := 0, constantValue := 0 }, { name := "out", type := (.object "java/io/PrintStream"), accessFlags := 25, slot := 1, constantValue := 0 }, { name := "err", type := (.object "java/io/PrintStream"), accessFlags := 25, slot := 2, constantValue := 0 }, { name := "initialIn", type := (.object "java/io/InputStream"), accessFlags := 10, slot := 3, constantValue := 0 }, { name := "NEVER", type := .int, accessFlags := 26, slot := 4, constantValue := 0 }, { name := "MAYBE", type := .int, accessFlags := 26, slot := 5, constantValue := 0 }, { name := "allowSecurityManager", type := .int, accessFlags := 10, slot := 6, constantValue := 0 }, { name := "security", type := (.object "java/lang/SecurityManager"), accessFlags := 74, slot := 7, constantValue := 0 }, { name := "notSupportedJnuEncoding", type := (.object "java/lang/String"), accessFlags := 10, slot := 8, constantValue := 0 }, { name := "cons", type := (.object "java/io/Console"), accessFlags := 74, slot := 9, constantValue := 0 }, { name := "initialErrStream", type := (.object "java/io/PrintStream"), accessFlags := 74, slot := 10, constantValue := 0 }, { name := "props", type := (.object "java/util/Properties"), accessFlags := 10, slot := 11, constantValue := 0 }, { name := "lineSeparator", type := (.object "java/lang/String"), accessFlags := 10, slot := 12, constantValue := 0 }, { name := "bootLayer", type := (.object "java/lang/ModuleLayer"), accessFlags := 8, slot := 13, constantValue := 0 }]
  methods := #[k5m0, k5m1]
  instanceTypes := #[]
  staticTypes := #[(.object "java/io/InputStream"), (.object "java/io/PrintStream"), (.object "java/io/PrintStream"), (.object "java/io/InputStream"), .int, .int, .int, (.object "java/lang/SecurityManager"), (.object "java/lang/String"), (.object "java/io/Console"), (.object "java/io/PrintStream"), (.object "java/util/Properties"), (.object "java/lang/String"), (.object "java/lang/ModuleLayer")]
  resolved := Array.replicate 834 none
  statics := none }

def pool6 : Array CpInfo := pool [(1, .class_ 2), (0, u "java/util/DualPivotQuicksort"), (5, .class_ 10), (1, u "java/lang/Object"), (0, u "<init>"), (0, u "()V"), (4, .class_ 18), (0, u "java/util/DualPivotQuicksort$Sorter"), (9, u "sort"), (7, u "insertionSort"), (31, u "I"), (4, .class_ 74), (0, u "java/util/DualPivotQuicksort$RunMerger"), (10, .class_ 86), (0, u "java/util/DualPivotQuicksort$Merger"), (12, .methodref 1 100), (0, .nameAndType 28 101), (0, u "(Ljava/util/DualPivotQuicksort$Sorter;[JIII)V"), (2, u "([JIII)V"), (0, .methodref 1 106), (0, .nameAndType 36 107), (0, u "([JII)V"), (106, u "MAX_MIXED_INSERTION_SORT_SIZE"), (2, u "MAX_INSERTION_SORT_SIZE"), (1, u "MIN_PARALLEL_SORT_SIZE"), (1, u "MIN_TRY_MERGE_SIZE"), (0, u "MIN_FIRST_RUN_SIZE"), (1, u "MIN_FIRST_RUNS_FACTOR"), (1, u "MAX_RUN_CAPACITY"), (1, u "MIN_RUN_COUNT"), (1, u "MIN_PARALLEL_MERGE_PARTS_SIZE"), (0, u "MIN_BYTE_COUNTING_SORT_SIZE"), (1, u "MIN_SHORT_OR_CHAR_COUNTING_SORT_SIZE"), (1, u "DELTA"), (1, u "MAX_RECURSION_DEPTH"), (1, u "NUM_BYTE_VALUES"), (1, u "MAX_BYTE_INDEX"), (0, u "NUM_CHAR_VALUES"), (0, u "NUM_SHORT_VALUES"), (0, u "MAX_SHORT_INDEX")] 86

def k6m0 : Method := { name := "<init>", desc := "()V", sig := { parameters := [], returnType := none }, accessFlags := 2, code := none }
def k6c1 : Code := { maxStack := 9, maxLocals := 7, code := jdk_2529_method_12_code, exceptionTable := #[], attributes := #[] }
def k6m1 : Method := { name := "sort", desc := "([JIII)V", sig := { parameters := [(.array .long), .int, .int, .int], returnType := none }, accessFlags := 8, code := some k6c1 }
def k6c2 : Code := { maxStack := 6, maxLocals := 25, code := jdk_2529_method_13_code, exceptionTable := #[], attributes := #[] }
def k6m2 : Method := { name := "sort", desc := "(Ljava/util/DualPivotQuicksort$Sorter;[JIII)V", sig := { parameters := [(.object "java/util/DualPivotQuicksort$Sorter"), (.array .long), .int, .int, .int], returnType := none }, accessFlags := 8, code := some k6c2 }
def k6c3 : Code := { maxStack := 5, maxLocals := 7, code := jdk_2529_method_15_code, exceptionTable := #[], attributes := #[] }
def k6m3 : Method := { name := "insertionSort", desc := "([JII)V", sig := { parameters := [(.array .long), .int, .int], returnType := none }, accessFlags := 10, code := some k6c3 }
/-- java/util/DualPivotQuicksort -/
def k6 : Class := { plain "java/util/DualPivotQuicksort" (some 0) with
  accessFlags := 48
  interfaces := #[]
  cf := some (fileOf pool6 1 #[.nestMembers #[73, 85, 17]] #[{ accessFlags := 2, nameIndex := 11, descriptorIndex := 12, attributes := #[] }, { accessFlags := 8, nameIndex := 28, descriptorIndex := 104, attributes := #[] }, { accessFlags := 8, nameIndex := 28, descriptorIndex := 101, attributes := #[] }, { accessFlags := 10, nameIndex := 36, descriptorIndex := 107, attributes := #[] }] 48 8 #[] #[{ accessFlags := 26, nameIndex := 214, descriptorIndex := 68, attributes := #[] }, { accessFlags := 26, nameIndex := 217, descriptorIndex := 68, attributes := #[] }, { accessFlags := 26, nameIndex := 219, descriptorIndex := 68, attributes := #[] }, { accessFlags := 26, nameIndex := 221, descriptorIndex := 68, attributes := #[] }, { accessFlags := 26, nameIndex := 222, descriptorIndex := 68, attributes := #[] }, { accessFlags := 26, nameIndex := 224, descriptorIndex := 68, attributes := #[] }, { accessFlags := 26, nameIndex := 226, descriptorIndex := 68, attributes := #[] }, { accessFlags := 26, nameIndex := 228, descriptorIndex := 68, attributes := #[] }, { accessFlags := 26, nameIndex := 230, descriptorIndex := 68, attributes := #[] }, { accessFlags := 26, nameIndex := 231, descriptorIndex := 68, attributes := #[] }, { accessFlags := 26, nameIndex := 233, descriptorIndex := 68, attributes := #[] }, { accessFlags := 26, nameIndex := 235, descriptorIndex := 68, attributes := #[] }, { accessFlags := 26, nameIndex := 237, descriptorIndex := 68, attributes := #[] }, { accessFlags := 26, nameIndex := 239, descriptorIndex := 68, attributes := #[] }, { accessFlags := 26, nameIndex := 241, descriptorIndex := 68, attributes := #[] }, { accessFlags := 26, nameIndex := 242, descriptorIndex := 68, attributes := #[] }, { accessFlags := 26, nameIndex := 243, descriptorIndex := 68, attributes := #[] }, { accessFlags := 26, nameIndex := 244, descriptorIndex := 68, attributes := #[] }])
  fields := #[{ name := "MAX_MIXED_INSERTION_SORT_SIZE", type := .int, accessFlags := 26, slot := 0, constantValue := 0 }, { name := "MAX_INSERTION_SORT_SIZE", type := .int, accessFlags := 26, slot := 1, constantValue := 0 }, { name := "MIN_PARALLEL_SORT_SIZE", type := .int, accessFlags := 26, slot := 2, constantValue := 0 }, { name := "MIN_TRY_MERGE_SIZE", type := .int, accessFlags := 26, slot := 3, constantValue := 0 }, { name := "MIN_FIRST_RUN_SIZE", type := .int, accessFlags := 26, slot := 4, constantValue := 0 }, { name := "MIN_FIRST_RUNS_FACTOR", type := .int, accessFlags := 26, slot := 5, constantValue := 0 }, { name := "MAX_RUN_CAPACITY", type := .int, accessFlags := 26, slot := 6, constantValue := 0 }, { name := "MIN_RUN_COUNT", type := .int, accessFlags := 26, slot := 7, constantValue := 0 }, { name := "MIN_PARALLEL_MERGE_PARTS_SIZE", type := .int, accessFlags := 26, slot := 8, constantValue := 0 }, { name := "MIN_BYTE_COUNTING_SORT_SIZE", type := .int, accessFlags := 26, slot := 9, constantValue := 0 }, { name := "MIN_SHORT_OR_CHAR_COUNTING_SORT_SIZE", type := .int, accessFlags := 26, slot := 10, constantValue := 0 }, { name := "DELTA", type := .int, accessFlags := 26, slot := 11, constantValue := 0 }, { name := "MAX_RECURSION_DEPTH", type := .int, accessFlags := 26, slot := 12, constantValue := 0 }, { name := "NUM_BYTE_VALUES", type := .int, accessFlags := 26, slot := 13, constantValue := 0 }, { name := "MAX_BYTE_INDEX", type := .int, accessFlags := 26, slot := 14, constantValue := 0 }, { name := "NUM_CHAR_VALUES", type := .int, accessFlags := 26, slot := 15, constantValue := 0 }, { name := "NUM_SHORT_VALUES", type := .int, accessFlags := 26, slot := 16, constantValue := 0 }, { name := "MAX_SHORT_INDEX", type := .int, accessFlags := 26, slot := 17, constantValue := 0 }]
  methods := #[k6m0, k6m1, k6m2, k6m3]
  instanceTypes := #[]
  staticTypes := #[.int, .int, .int, .int, .int, .int, .int, .int, .int, .int, .int, .int, .int, .int, .int, .int, .int, .int]
  resolved := Array.replicate 331 none
  statics := none }

def pool7 : Array CpInfo := pool [(1, .methodref 2 3), (0, .class_ 4), (0, .nameAndType 5 6), (0, u "java/lang/Object"), (0, u "<init>"), (0, u "()V"), (0, .class_ 8), (0, u "java/lang/Record")] 13

def k7c0 : Code := { maxStack := 1, maxLocals := 1, code := jdk_30_method_1_code, exceptionTable := #[], attributes := #[] }
def k7m0 : Method := { name := "<init>", desc := "()V", sig := { parameters := [], returnType := none }, accessFlags := 4, code := some k7c0 }
/-- java/lang/Record -/
def k7 : Class := { plain "java/lang/Record" (some 0) with
  accessFlags := 1057
  interfaces := #[]
  cf := some (fileOf pool7 7 #[] #[{ accessFlags := 4, nameIndex := 5, descriptorIndex := 6, attributes := #[] }] 1057 2 #[] #[])
  fields := #[]
  methods := #[k7m0]
  instanceTypes := #[]
  staticTypes := #[]
  resolved := Array.replicate 22 none
  statics := none }

def pool8 : Array CpInfo := pool [(1, .methodref 2 3), (0, .class_ 4), (0, .nameAndType 5 6), (0, u "java/lang/Record"), (0, u "<init>"), (0, u "()V"), (0, .fieldref 8 9), (0, .class_ 10), (0, .nameAndType 11 12), (0, u "com/example/nosy_pool/nosypool/CheckoutStatistics"), (0, u "count"), (0, u "J"), (0, .fieldref 8 14), (0, .nameAndType 15 12), (0, u "rolledBack"), (0, .fieldref 8 17), (0, .nameAndType 18 12), (0, u "holdP50Ms"), (0, .fieldref 8 20), (0, .nameAndType 21 12), (0, u "holdP99Ms"), (0, .fieldref 8 23), (0, .nameAndType 24 12), (0, u "busyP50Ms"), (0, .fieldref 8 26), (0, .nameAndType 27 12), (0, u "busyP99Ms"), (0, .fieldref 8 29), (0, .nameAndType 30 31), (0, u "busyRatio"), (0, u "D"), (36, u "(JJJJJJD)V"), (2, u "NONE"), (0, u "Lcom/example/nosy_pool/nosypool/CheckoutStatistics;"), (0, u "WINDOW"), (0, u "I"), (9, u "()J"), (0, u "()D")] 35

def k8c0 : Code := { maxStack := 3, maxLocals := 15, code := prog_3_method_1_code, exceptionTable := #[], attributes := #[] }
def k8m0 : Method := { name := "<init>", desc := "(JJJJJJD)V", sig := { parameters := [.long, .long, .long, .long, .long, .long, .double], returnType := none }, accessFlags := 1, code := some k8c0 }
def k8c1 : Code := { maxStack := 2, maxLocals := 1, code := prog_3_method_5_code, exceptionTable := #[], attributes := #[] }
def k8m1 : Method := { name := "count", desc := "()J", sig := { parameters := [], returnType := some .long }, accessFlags := 1, code := some k8c1 }
def k8c2 : Code := { maxStack := 2, maxLocals := 1, code := prog_3_method_6_code, exceptionTable := #[], attributes := #[] }
def k8m2 : Method := { name := "rolledBack", desc := "()J", sig := { parameters := [], returnType := some .long }, accessFlags := 1, code := some k8c2 }
def k8c3 : Code := { maxStack := 2, maxLocals := 1, code := prog_3_method_7_code, exceptionTable := #[], attributes := #[] }
def k8m3 : Method := { name := "holdP50Ms", desc := "()J", sig := { parameters := [], returnType := some .long }, accessFlags := 1, code := some k8c3 }
def k8c4 : Code := { maxStack := 2, maxLocals := 1, code := prog_3_method_8_code, exceptionTable := #[], attributes := #[] }
def k8m4 : Method := { name := "holdP99Ms", desc := "()J", sig := { parameters := [], returnType := some .long }, accessFlags := 1, code := some k8c4 }
def k8c5 : Code := { maxStack := 2, maxLocals := 1, code := prog_3_method_9_code, exceptionTable := #[], attributes := #[] }
def k8m5 : Method := { name := "busyP50Ms", desc := "()J", sig := { parameters := [], returnType := some .long }, accessFlags := 1, code := some k8c5 }
def k8c6 : Code := { maxStack := 2, maxLocals := 1, code := prog_3_method_10_code, exceptionTable := #[], attributes := #[] }
def k8m6 : Method := { name := "busyP99Ms", desc := "()J", sig := { parameters := [], returnType := some .long }, accessFlags := 1, code := some k8c6 }
def k8c7 : Code := { maxStack := 2, maxLocals := 1, code := prog_3_method_11_code, exceptionTable := #[], attributes := #[] }
def k8m7 : Method := { name := "busyRatio", desc := "()D", sig := { parameters := [], returnType := some .double }, accessFlags := 1, code := some k8c7 }
/-- com/example/nosy_pool/nosypool/CheckoutStatistics -/
def k8 : Class := { plain "com/example/nosy_pool/nosypool/CheckoutStatistics" (some 7) with
  accessFlags := 49
  interfaces := #[]
  cf := some (fileOf pool8 8 #[] #[{ accessFlags := 1, nameIndex := 5, descriptorIndex := 68, attributes := #[] }, { accessFlags := 1, nameIndex := 11, descriptorIndex := 84, attributes := #[] }, { accessFlags := 1, nameIndex := 15, descriptorIndex := 84, attributes := #[] }, { accessFlags := 1, nameIndex := 18, descriptorIndex := 84, attributes := #[] }, { accessFlags := 1, nameIndex := 21, descriptorIndex := 84, attributes := #[] }, { accessFlags := 1, nameIndex := 24, descriptorIndex := 84, attributes := #[] }, { accessFlags := 1, nameIndex := 27, descriptorIndex := 84, attributes := #[] }, { accessFlags := 1, nameIndex := 30, descriptorIndex := 85, attributes := #[] }] 49 2 #[] #[{ accessFlags := 18, nameIndex := 11, descriptorIndex := 12, attributes := #[] }, { accessFlags := 18, nameIndex := 15, descriptorIndex := 12, attributes := #[] }, { accessFlags := 18, nameIndex := 18, descriptorIndex := 12, attributes := #[] }, { accessFlags := 18, nameIndex := 21, descriptorIndex := 12, attributes := #[] }, { accessFlags := 18, nameIndex := 24, descriptorIndex := 12, attributes := #[] }, { accessFlags := 18, nameIndex := 27, descriptorIndex := 12, attributes := #[] }, { accessFlags := 18, nameIndex := 30, descriptorIndex := 31, attributes := #[] }, { accessFlags := 25, nameIndex := 73, descriptorIndex := 74, attributes := #[] }, { accessFlags := 24, nameIndex := 71, descriptorIndex := 72, attributes := #[] }])
  fields := #[{ name := "count", type := .long, accessFlags := 18, slot := 0, constantValue := 0 }, { name := "rolledBack", type := .long, accessFlags := 18, slot := 1, constantValue := 0 }, { name := "holdP50Ms", type := .long, accessFlags := 18, slot := 2, constantValue := 0 }, { name := "holdP99Ms", type := .long, accessFlags := 18, slot := 3, constantValue := 0 }, { name := "busyP50Ms", type := .long, accessFlags := 18, slot := 4, constantValue := 0 }, { name := "busyP99Ms", type := .long, accessFlags := 18, slot := 5, constantValue := 0 }, { name := "busyRatio", type := .double, accessFlags := 18, slot := 6, constantValue := 0 }, { name := "WINDOW", type := .int, accessFlags := 25, slot := 0, constantValue := 0 }, { name := "NONE", type := (.object "com/example/nosy_pool/nosypool/CheckoutStatistics"), accessFlags := 24, slot := 1, constantValue := 0 }]
  methods := #[k8m0, k8m1, k8m2, k8m3, k8m4, k8m5, k8m6, k8m7]
  instanceTypes := #[.long, .long, .long, .long, .long, .long, .double]
  staticTypes := #[.int, (.object "com/example/nosy_pool/nosypool/CheckoutStatistics")]
  resolved := Array.replicate 121 none
  statics := none }

def pool9 : Array CpInfo := pool [(1, .class_ 2), (0, u "java/lang/constant/Constable"), (0, .class_ 4), (0, u "java/lang/Object")] 6

/-- java/lang/constant/Constable -/
def k9 : Class := { plain "java/lang/constant/Constable" (some 0) with
  accessFlags := 1537
  interfaces := #[]
  cf := some (fileOf pool9 1 #[] #[] 1537 3 #[] #[])
  fields := #[]
  methods := #[]
  instanceTypes := #[]
  staticTypes := #[]
  resolved := Array.replicate 11 none
  statics := none }

def pool10 : Array CpInfo := pool [(1, .class_ 2), (0, u "java/lang/Comparable"), (0, .class_ 4), (0, u "java/lang/Object")] 7

/-- java/lang/Comparable -/
def k10 : Class := { plain "java/lang/Comparable" (some 0) with
  accessFlags := 1537
  interfaces := #[]
  cf := some (fileOf pool10 1 #[] #[] 1537 3 #[] #[])
  fields := #[]
  methods := #[]
  instanceTypes := #[]
  staticTypes := #[]
  resolved := Array.replicate 12 none
  statics := none }

def pool11 : Array CpInfo := pool [(1, .class_ 2), (0, u "java/io/Serializable"), (0, .class_ 4), (0, u "java/lang/Object")] 2

/-- java/io/Serializable -/
def k11 : Class := { plain "java/io/Serializable" (some 0) with
  accessFlags := 1537
  interfaces := #[]
  cf := some (fileOf pool11 1 #[] #[] 1537 3 #[] #[])
  fields := #[]
  methods := #[]
  instanceTypes := #[]
  staticTypes := #[]
  resolved := Array.replicate 7 none
  statics := none }

def pool12 : Array CpInfo := pool [(2, .class_ 4), (1, u "java/lang/Enum"), (0, u "name"), (0, u "Ljava/lang/String;"), (2, u "ordinal"), (0, u "I"), (1, .class_ 14), (1, u "java/lang/Object"), (4, u "hash"), (86, .class_ 108), (1, u "java/lang/Enum$EnumDesc"), (2, .class_ 112), (0, u "java/lang/constant/Constable"), (0, .class_ 114), (0, u "java/lang/Comparable"), (0, .class_ 116), (0, u "java/io/Serializable")] 87

/-- java/lang/Enum -/
def k12 : Class := { plain "java/lang/Enum" (some 0) with
  accessFlags := 1057
  interfaces := #[9, 10, 11]
  cf := some (fileOf pool12 2 #[.nestMembers #[106]] #[] 1057 12 #[111, 113, 115] #[{ accessFlags := 18, nameIndex := 5, descriptorIndex := 6, attributes := #[] }, { accessFlags := 18, nameIndex := 9, descriptorIndex := 10, attributes := #[] }, { accessFlags := 2, nameIndex := 19, descriptorIndex := 10, attributes := #[] }])
  fields := #[{ name := "name", type := (.object "java/lang/String"), accessFlags := 18, slot := 0, constantValue := 0 }, { name := "ordinal", type := .int, accessFlags := 18, slot := 1, constantValue := 0 }, { name := "hash", type := .int, accessFlags := 2, slot := 2, constantValue := 0 }]
  methods := #[]
  instanceTypes := #[(.object "java/lang/String"), .int, .int]
  staticTypes := #[]
  resolved := Array.replicate 204 none
  statics := none }

def pool13 : Array CpInfo := pool [(1, .class_ 2), (0, u "java/util/concurrent/TimeUnit"), (2, u "NANOSECONDS"), (0, u "Ljava/util/concurrent/TimeUnit;"), (2, u "MICROSECONDS"), (2, u "MILLISECONDS"), (2, u "SECONDS"), (2, u "MINUTES"), (2, u "HOURS"), (2, u "DAYS"), (2, u "$VALUES"), (0, u "[Ljava/util/concurrent/TimeUnit;"), (6, .class_ 37), (1, u "java/lang/Enum"), (6, .fieldref 1 45), (0, .nameAndType 46 47), (0, u "scale"), (0, u "J"), (6, u "maxNanos"), (4, u "microRatio"), (2, u "maxMicros"), (0, .long 1000000), (1, .fieldref 1 66), (0, .nameAndType 67 68), (0, u "milliRatio"), (0, u "I"), (2, u "maxMillis"), (4, u "secRatio"), (2, u "maxSecs"), (9, u "(J)J"), (5, u "toMillis"), (67, .class_ 165), (1, u "java/util/concurrent/TimeUnit$1"), (46, u "NANO_SCALE"), (3, u "MICRO_SCALE"), (0, u "MILLI_SCALE"), (0, u "SECOND_SCALE"), (0, u "MINUTE_SCALE"), (0, u "HOUR_SCALE"), (0, u "DAY_SCALE")] 61

def k13c0 : Code := { maxStack := 6, maxLocals := 7, code := jdk_2799_method_9_code, exceptionTable := #[], attributes := #[] }
def k13m0 : Method := { name := "toMillis", desc := "(J)J", sig := { parameters := [.long], returnType := some .long }, accessFlags := 1, code := some k13c0 }
/-- java/util/concurrent/TimeUnit -/
def k13 : Class := { plain "java/util/concurrent/TimeUnit" (some 12) with
  accessFlags := 16433
  interfaces := #[]
  cf := some (fileOf pool13 1 #[.nestMembers #[163]] #[{ accessFlags := 1, nameIndex := 95, descriptorIndex := 89, attributes := #[] }] 16433 35 #[] #[{ accessFlags := 16409, nameIndex := 5, descriptorIndex := 6, attributes := #[] }, { accessFlags := 16409, nameIndex := 9, descriptorIndex := 6, attributes := #[] }, { accessFlags := 16409, nameIndex := 12, descriptorIndex := 6, attributes := #[] }, { accessFlags := 16409, nameIndex := 15, descriptorIndex := 6, attributes := #[] }, { accessFlags := 16409, nameIndex := 18, descriptorIndex := 6, attributes := #[] }, { accessFlags := 16409, nameIndex := 21, descriptorIndex := 6, attributes := #[] }, { accessFlags := 16409, nameIndex := 24, descriptorIndex := 6, attributes := #[] }, { accessFlags := 26, nameIndex := 212, descriptorIndex := 47, attributes := #[] }, { accessFlags := 26, nameIndex := 216, descriptorIndex := 47, attributes := #[] }, { accessFlags := 26, nameIndex := 217, descriptorIndex := 47, attributes := #[] }, { accessFlags := 26, nameIndex := 218, descriptorIndex := 47, attributes := #[] }, { accessFlags := 26, nameIndex := 219, descriptorIndex := 47, attributes := #[] }, { accessFlags := 26, nameIndex := 220, descriptorIndex := 47, attributes := #[] }, { accessFlags := 26, nameIndex := 221, descriptorIndex := 47, attributes := #[] }, { accessFlags := 18, nameIndex := 46, descriptorIndex := 47, attributes := #[] }, { accessFlags := 18, nameIndex := 54, descriptorIndex := 47, attributes := #[] }, { accessFlags := 18, nameIndex := 62, descriptorIndex := 47, attributes := #[] }, { accessFlags := 18, nameIndex := 71, descriptorIndex := 47, attributes := #[] }, { accessFlags := 18, nameIndex := 79, descriptorIndex := 47, attributes := #[] }, { accessFlags := 18, nameIndex := 59, descriptorIndex := 47, attributes := #[] }, { accessFlags := 18, nameIndex := 67, descriptorIndex := 68, attributes := #[] }, { accessFlags := 18, nameIndex := 76, descriptorIndex := 68, attributes := #[] }, { accessFlags := 4122, nameIndex := 27, descriptorIndex := 28, attributes := #[] }])
  fields := #[{ name := "NANOSECONDS", type := (.object "java/util/concurrent/TimeUnit"), accessFlags := 16409, slot := 0, constantValue := 0 }, { name := "MICROSECONDS", type := (.object "java/util/concurrent/TimeUnit"), accessFlags := 16409, slot := 1, constantValue := 0 }, { name := "MILLISECONDS", type := (.object "java/util/concurrent/TimeUnit"), accessFlags := 16409, slot := 2, constantValue := 0 }, { name := "SECONDS", type := (.object "java/util/concurrent/TimeUnit"), accessFlags := 16409, slot := 3, constantValue := 0 }, { name := "MINUTES", type := (.object "java/util/concurrent/TimeUnit"), accessFlags := 16409, slot := 4, constantValue := 0 }, { name := "HOURS", type := (.object "java/util/concurrent/TimeUnit"), accessFlags := 16409, slot := 5, constantValue := 0 }, { name := "DAYS", type := (.object "java/util/concurrent/TimeUnit"), accessFlags := 16409, slot := 6, constantValue := 0 }, { name := "NANO_SCALE", type := .long, accessFlags := 26, slot := 7, constantValue := 0 }, { name := "MICRO_SCALE", type := .long, accessFlags := 26, slot := 8, constantValue := 0 }, { name := "MILLI_SCALE", type := .long, accessFlags := 26, slot := 9, constantValue := 0 }, { name := "SECOND_SCALE", type := .long, accessFlags := 26, slot := 10, constantValue := 0 }, { name := "MINUTE_SCALE", type := .long, accessFlags := 26, slot := 11, constantValue := 0 }, { name := "HOUR_SCALE", type := .long, accessFlags := 26, slot := 12, constantValue := 0 }, { name := "DAY_SCALE", type := .long, accessFlags := 26, slot := 13, constantValue := 0 }, { name := "scale", type := .long, accessFlags := 18, slot := 3, constantValue := 0 }, { name := "maxNanos", type := .long, accessFlags := 18, slot := 4, constantValue := 0 }, { name := "maxMicros", type := .long, accessFlags := 18, slot := 5, constantValue := 0 }, { name := "maxMillis", type := .long, accessFlags := 18, slot := 6, constantValue := 0 }, { name := "maxSecs", type := .long, accessFlags := 18, slot := 7, constantValue := 0 }, { name := "microRatio", type := .long, accessFlags := 18, slot := 8, constantValue := 0 }, { name := "milliRatio", type := .int, accessFlags := 18, slot := 9, constantValue := 0 }, { name := "secRatio", type := .int, accessFlags := 18, slot := 10, constantValue := 0 }, { name := "$VALUES", type := (.array (.object "java/util/concurrent/TimeUnit")), accessFlags := 4122, slot := 14, constantValue := 0 }]
  methods := #[k13m0]
  instanceTypes := #[(.object "java/lang/String"), .int, .int, .long, .long, .long, .long, .long, .long, .int, .int]
  staticTypes := #[(.object "java/util/concurrent/TimeUnit"), (.object "java/util/concurrent/TimeUnit"), (.object "java/util/concurrent/TimeUnit"), (.object "java/util/concurrent/TimeUnit"), (.object "java/util/concurrent/TimeUnit"), (.object "java/util/concurrent/TimeUnit"), (.object "java/util/concurrent/TimeUnit"), .long, .long, .long, .long, .long, .long, .long, (.array (.object "java/util/concurrent/TimeUnit"))]
  resolved := Array.replicate 283 none
  statics := some 0 }

def pool14 : Array CpInfo := pool [(1, u "java/lang/Cloneable"), (0, .class_ 1), (0, u "java/lang/Object"), (0, .class_ 3)] 3

/-- java/lang/Cloneable -/
def k14 : Class := { plain "java/lang/Cloneable" (some 0) with
  accessFlags := 1537
  interfaces := #[]
  cf := some (fileOf pool14 2 #[] #[] 1537 4 #[] #[])
  fields := #[]
  methods := #[]
  instanceTypes := #[]
  staticTypes := #[]
  resolved := Array.replicate 8 none
  statics := none }

/-- the primitive byte -/
def k15 : Class := { plain "byte" none with kind := .primitive 'B', accessFlags := 0x411 }
/-- [B -/
def k16 : Class := { plain "[B" (some 0) with kind := .array 15 .byte, interfaces := #[14, 11], accessFlags := 1041 }

/-- the primitive int -/
def k17 : Class := { plain "int" none with kind := .primitive 'I', accessFlags := 0x411 }
/-- [I -/
def k18 : Class := { plain "[I" (some 0) with kind := .array 17 .int, interfaces := #[14, 11], accessFlags := 1041 }

/-- the primitive long -/
def k19 : Class := { plain "long" none with kind := .primitive 'J', accessFlags := 0x411 }
/-- [J -/
def k20 : Class := { plain "[J" (some 0) with kind := .array 19 .long, interfaces := #[14, 11], accessFlags := 1041 }

/-- java/lang/String: laid by hand, for Enum.name -/
def k21 : Class := { plain "java/lang/String" (some 0) with
  accessFlags := 49
  fields := #[{ name := "value", type := (.array .byte), accessFlags := 18, slot := 0, constantValue := 0 }, { name := "coder", type := .byte, accessFlags := 18, slot := 1, constantValue := 0 }, { name := "hash", type := .int, accessFlags := 2, slot := 2, constantValue := 0 }, { name := "hashIsZero", type := .boolean, accessFlags := 2, slot := 3, constantValue := 0 }]
  instanceTypes := #[(.array .byte), .byte, .int, .boolean] }

def heap : Heap := #[{ cls := 13, slots := #[.ref 1, .null, .null, .null, .null, .null, .null, .long 0, .long 0, .long 0, .long 0, .long 0, .long 0, .long 0, .null], vm := .statics 13 },
  { cls := 13, slots := #[.ref 2, .int 0, .int 0, .long 1, .long 9223372036854775807, .long 9223372036854775, .long 9223372036854, .long 9223372036, .long 1000, .int 1000000, .int 1000000000], vm := .none },
  { cls := 21, slots := #[.ref 3, .int 0, .int 0, .int 0], vm := .none },
  { cls := 16, slots := #[.int 78, .int 65, .int 78, .int 79, .int 83, .int 69, .int 67, .int 79, .int 78, .int 68, .int 83], vm := .none }]
def classes : Array Class := #[k0, k1, k2, k3, k4, k5, k6, k7, k8, k9, k10, k11, k12, k13, k14, k15, k16, k17, k18, k19, k20, k21]
def interned : List (Array UInt16 × Addr) := []
def slotsUsed : Nat := 41
def theMethod : MethodId := ⟨1, 1⟩
def args0 : Array Value := #[.long 5, .long 3, .long 7, .long 9, .int 5]
def aboutOver (below : List Frame) : State where
  vm := { classes := classes, interned := interned.toArray }
  heap := heap
  slotsUsed := slotsUsed
  threads := #[{ frames := .invoking theMethod args0 :: below }]
def below0 : List Frame := [.native { method := ⟨0, 0⟩, args := #[] }]
def about1 : State := aboutOver below0
def p0 : Program := .bare "" "" ""
def e0 : Env := launch0.env 0 0 0
theorem w_frames : about1.frames = Frame.invoking theMethod args0 :: below0 := rfl
set_option maxRecDepth 65536 in
theorem w_args : argsFit about1.vm theMethod args0 = true := by decide +kernel
set_option maxRecDepth 65536 in
theorem w_heap : heapFits about1 = true := by decide +kernel
set_option maxRecDepth 65536 in
theorem w_runnable : about1.curStatus? = some .runnable := by decide +kernel
set_option maxRecDepth 65536 in
theorem w_alone : about1.alone = true := by decide +kernel
set_option maxRecDepth 65536 in
theorem w_named : about1.methodNamed? x = some theMethod := by decide +kernel
set_option maxRecDepth 65536 in
theorem w_hears : about1.hears theMethod below0 = true := by decide +kernel
set_option maxRecDepth 65536 in
theorem w_ripe : about1.ripe theMethod args0 below0 = true := by decide +kernel
theorem w_running : about1.status = .running := rfl
set_option maxRecDepth 65536 in
theorem w_room : about1.hasRoom e0.platform room_1 = true :=
  launch0.hasRoom_least _ room_1 (by decide +kernel) (by decide +kernel) (by decide +kernel) (by decide +kernel) (by decide +kernel) (by decide +kernel)
theorem allAtoms_all (ts : List Jvm.Cond) (a : Array Jvm.Value) (st : Jvm.State) : (allAtoms ts).before a st = ts.all (fun c => c.before a st) := by
  induction ts with
  | nil => rfl
  | cons c t ih =>
    show (Jvm.Cond.and c (allAtoms t)).before a st = _
    rw [Jvm.Cond.before_and, ih, List.all_cons]
def words1 : List Jvm.Cond := Jvm.Cond.code x code maxLocals ret :: tables_1
/-- a 'code' word, met by the world's own term for the bytes: nothing is compared byte by byte -/
theorem code_word {y : MethodName} {bytes : ByteArray} {mx : Nat} {rt : Option FieldType} {a : Array Value} {s : State} {m : MethodId} {meth : Method} {c : Code} (h1 : s.methodNamed? y = some m) (h2 : s.vm.method? m = some meth) (h3 : meth.code = some c) (h4 : c.code = bytes)
    (h5 : (c.maxLocals == mx && c.exceptionTable.isEmpty && decide (c.maxStack ≤ mostOperands) && decide (meth.sig.returnType = rt) && !meth.locks && decide (parseMethodDescriptor y.desc = some meth.sig)) = true) : (Jvm.Cond.code y bytes mx rt).before a s = true := by
  simp only [Bool.and_eq_true, beq_iff_eq, Bool.not_eq_true', decide_eq_true_eq] at h5
  obtain ⟨⟨⟨⟨⟨g1, g2⟩, g3⟩, g4⟩, g5⟩, g6⟩ := h5
  simp [Cond.before, Cond.holds, Cond.value, h1, h2, h3, h4, g1, g2, g3, g4, g5, g6]
def isCode : Jvm.Cond → Bool
  | .code _ _ _ _ => true
  | _ => false
theorem all_split {L : List Jvm.Cond} {P : Jvm.Cond → Bool} (h1 : L.all (fun c => isCode c || P c) = true) (h2 : ∀ c ∈ L.filter isCode, P c = true) : L.all P = true := by
  refine List.all_eq_true.mpr fun c hc => ?_
  have h := List.all_eq_true.mp h1 c hc
  rcases Bool.eq_false_or_eq_true (isCode c) with hi | hi
  · exact h2 c (List.mem_filter.mpr ⟨hc, hi⟩)
  · simpa [hi] using h
set_option maxRecDepth 65536 in
theorem w_c0 : (Jvm.Cond.code x code maxLocals ret).before args0 about1 = true := code_word (m := ⟨1, 1⟩) (meth := k1m1) (c := k1c1) (by decide +kernel) rfl rfl rfl (by decide +kernel)
set_option maxRecDepth 65536 in
theorem w_c1 : (Jvm.Cond.code ({ cls := "com/example/nosy_pool/nosypool/CheckoutHistory", name := "<init>", desc := "()V" } : Jvm.MethodName) prog_1_method_1_code (1 : Nat) (Option.none : Option Jvm.ClassFile.FieldType)).before args0 about1 = true := code_word (m := ⟨2, 0⟩) (meth := k2m0) (c := k2c0) (by decide +kernel) rfl rfl rfl (by decide +kernel)
set_option maxRecDepth 65536 in
theorem w_c2 : (Jvm.Cond.code ({ cls := "com/example/nosy_pool/nosypool/CheckoutHistory", name := "<init>", desc := "([J[JJJ)V" } : Jvm.MethodName) prog_1_method_2_code (7 : Nat) (Option.none : Option Jvm.ClassFile.FieldType)).before args0 about1 = true := code_word (m := ⟨2, 1⟩) (meth := k2m1) (c := k2c1) (by decide +kernel) rfl rfl rfl (by decide +kernel)
set_option maxRecDepth 65536 in
theorem w_c3 : (Jvm.Cond.code ({ cls := "java/lang/Object", name := "<init>", desc := "()V" } : Jvm.MethodName) object_method_1_code (1 : Nat) (Option.none : Option Jvm.ClassFile.FieldType)).before args0 about1 = true := code_word (m := ⟨0, 0⟩) (meth := k0m0) (c := k0c0) (by decide +kernel) rfl rfl rfl (by decide +kernel)
set_option maxRecDepth 65536 in
theorem w_c4 : (Jvm.Cond.code ({ cls := "com/example/nosy_pool/nosypool/CheckoutHistory", name := "record", desc := "(JJZ)V" } : Jvm.MethodName) prog_1_method_3_code (7 : Nat) (Option.none : Option Jvm.ClassFile.FieldType)).before args0 about1 = true := code_word (m := ⟨2, 2⟩) (meth := k2m2) (c := k2c2) (by decide +kernel) rfl rfl rfl (by decide +kernel)
set_option maxRecDepth 65536 in
theorem w_c5 : (Jvm.Cond.code ({ cls := "com/example/nosy_pool/nosypool/CheckoutHistory", name := "statistics", desc := "()Lcom/example/nosy_pool/nosypool/CheckoutStatistics;" } : Jvm.MethodName) prog_1_method_5_code (10 : Nat) (Option.some (Jvm.ClassFile.FieldType.object "com/example/nosy_pool/nosypool/CheckoutStatistics"))).before args0 about1 = true := code_word (m := ⟨2, 3⟩) (meth := k2m3) (c := k2c3) (by decide +kernel) rfl rfl rfl (by decide +kernel)
set_option maxRecDepth 65536 in
theorem w_c6 : (Jvm.Cond.code ({ cls := "java/lang/Math", name := "min", desc := "(JJ)J" } : Jvm.MethodName) jdk_29_method_70_code (4 : Nat) (Option.some Jvm.ClassFile.FieldType.long)).before args0 about1 = true := code_word (m := ⟨3, 3⟩) (meth := k3m3) (c := k3c3) (by decide +kernel) rfl rfl rfl (by decide +kernel)
set_option maxRecDepth 65536 in
theorem w_c7 : (Jvm.Cond.code ({ cls := "java/util/Arrays", name := "copyOf", desc := "([JI)[J" } : Jvm.MethodName) jdk_65_method_124_code (3 : Nat) (Option.some (Jvm.ClassFile.FieldType.array Jvm.ClassFile.FieldType.long))).before args0 about1 = true := code_word (m := ⟨4, 2⟩) (meth := k4m2) (c := k4c2) (by decide +kernel) rfl rfl rfl (by decide +kernel)
set_option maxRecDepth 65536 in
theorem w_c8 : (Jvm.Cond.code ({ cls := "java/lang/Math", name := "min", desc := "(II)I" } : Jvm.MethodName) jdk_29_method_69_code (2 : Nat) (Option.some Jvm.ClassFile.FieldType.int)).before args0 about1 = true := code_word (m := ⟨3, 2⟩) (meth := k3m2) (c := k3c2) (by decide +kernel) rfl rfl rfl (by decide +kernel)
set_option maxRecDepth 65536 in
theorem w_c9 : (Jvm.Cond.code ({ cls := "java/util/Arrays", name := "sort", desc := "([J)V" } : Jvm.MethodName) jdk_65_method_4_code (1 : Nat) (Option.none : Option Jvm.ClassFile.FieldType)).before args0 about1 = true := code_word (m := ⟨4, 1⟩) (meth := k4m1) (c := k4c1) (by decide +kernel) rfl rfl rfl (by decide +kernel)
set_option maxRecDepth 65536 in
theorem w_c10 : (Jvm.Cond.code ({ cls := "java/util/DualPivotQuicksort", name := "sort", desc := "([JIII)V" } : Jvm.MethodName) jdk_2529_method_12_code (7 : Nat) (Option.none : Option Jvm.ClassFile.FieldType)).before args0 about1 = true := code_word (m := ⟨6, 1⟩) (meth := k6m1) (c := k6c1) (by decide +kernel) rfl rfl rfl (by decide +kernel)
set_option maxRecDepth 65536 in
theorem w_c11 : (Jvm.Cond.code ({ cls := "java/util/DualPivotQuicksort", name := "sort", desc := "(Ljava/util/DualPivotQuicksort$Sorter;[JIII)V" } : Jvm.MethodName) jdk_2529_method_13_code (25 : Nat) (Option.none : Option Jvm.ClassFile.FieldType)).before args0 about1 = true := code_word (m := ⟨6, 2⟩) (meth := k6m2) (c := k6c2) (by decide +kernel) rfl rfl rfl (by decide +kernel)
set_option maxRecDepth 65536 in
theorem w_c12 : (Jvm.Cond.code ({ cls := "java/util/DualPivotQuicksort", name := "insertionSort", desc := "([JII)V" } : Jvm.MethodName) jdk_2529_method_15_code (7 : Nat) (Option.none : Option Jvm.ClassFile.FieldType)).before args0 about1 = true := code_word (m := ⟨6, 3⟩) (meth := k6m3) (c := k6c3) (by decide +kernel) rfl rfl rfl (by decide +kernel)
set_option maxRecDepth 65536 in
theorem w_c13 : (Jvm.Cond.code ({ cls := "com/example/nosy_pool/nosypool/CheckoutHistory", name := "percentileMs", desc := "([JI)J" } : Jvm.MethodName) prog_1_method_6_code (3 : Nat) (Option.some Jvm.ClassFile.FieldType.long)).before args0 about1 = true := code_word (m := ⟨2, 4⟩) (meth := k2m4) (c := k2c4) (by decide +kernel) rfl rfl rfl (by decide +kernel)
set_option maxRecDepth 65536 in
theorem w_c14 : (Jvm.Cond.code ({ cls := "java/util/concurrent/TimeUnit", name := "toMillis", desc := "(J)J" } : Jvm.MethodName) jdk_2799_method_9_code (7 : Nat) (Option.some Jvm.ClassFile.FieldType.long)).before args0 about1 = true := code_word (m := ⟨13, 0⟩) (meth := k13m0) (c := k13c0) (by decide +kernel) rfl rfl rfl (by decide +kernel)
set_option maxRecDepth 65536 in
theorem w_c15 : (Jvm.Cond.code ({ cls := "com/example/nosy_pool/nosypool/CheckoutStatistics", name := "<init>", desc := "(JJJJJJD)V" } : Jvm.MethodName) prog_3_method_1_code (15 : Nat) (Option.none : Option Jvm.ClassFile.FieldType)).before args0 about1 = true := code_word (m := ⟨8, 0⟩) (meth := k8m0) (c := k8c0) (by decide +kernel) rfl rfl rfl (by decide +kernel)
set_option maxRecDepth 65536 in
theorem w_c16 : (Jvm.Cond.code ({ cls := "java/lang/Record", name := "<init>", desc := "()V" } : Jvm.MethodName) jdk_30_method_1_code (1 : Nat) (Option.none : Option Jvm.ClassFile.FieldType)).before args0 about1 = true := code_word (m := ⟨7, 0⟩) (meth := k7m0) (c := k7c0) (by decide +kernel) rfl rfl rfl (by decide +kernel)
set_option maxRecDepth 65536 in
theorem w_c17 : (Jvm.Cond.code ({ cls := "com/example/nosy_pool/nosypool/CheckoutStatistics", name := "count", desc := "()J" } : Jvm.MethodName) prog_3_method_5_code (1 : Nat) (Option.some Jvm.ClassFile.FieldType.long)).before args0 about1 = true := code_word (m := ⟨8, 1⟩) (meth := k8m1) (c := k8c1) (by decide +kernel) rfl rfl rfl (by decide +kernel)
set_option maxRecDepth 65536 in
theorem w_c18 : (Jvm.Cond.code ({ cls := "com/example/nosy_pool/nosypool/CheckoutStatistics", name := "rolledBack", desc := "()J" } : Jvm.MethodName) prog_3_method_6_code (1 : Nat) (Option.some Jvm.ClassFile.FieldType.long)).before args0 about1 = true := code_word (m := ⟨8, 2⟩) (meth := k8m2) (c := k8c2) (by decide +kernel) rfl rfl rfl (by decide +kernel)
set_option maxRecDepth 65536 in
theorem w_c19 : (Jvm.Cond.code ({ cls := "com/example/nosy_pool/nosypool/CheckoutStatistics", name := "holdP50Ms", desc := "()J" } : Jvm.MethodName) prog_3_method_7_code (1 : Nat) (Option.some Jvm.ClassFile.FieldType.long)).before args0 about1 = true := code_word (m := ⟨8, 3⟩) (meth := k8m3) (c := k8c3) (by decide +kernel) rfl rfl rfl (by decide +kernel)
set_option maxRecDepth 65536 in
theorem w_c20 : (Jvm.Cond.code ({ cls := "com/example/nosy_pool/nosypool/CheckoutStatistics", name := "holdP99Ms", desc := "()J" } : Jvm.MethodName) prog_3_method_8_code (1 : Nat) (Option.some Jvm.ClassFile.FieldType.long)).before args0 about1 = true := code_word (m := ⟨8, 4⟩) (meth := k8m4) (c := k8c4) (by decide +kernel) rfl rfl rfl (by decide +kernel)
set_option maxRecDepth 65536 in
theorem w_c21 : (Jvm.Cond.code ({ cls := "com/example/nosy_pool/nosypool/CheckoutStatistics", name := "busyP50Ms", desc := "()J" } : Jvm.MethodName) prog_3_method_9_code (1 : Nat) (Option.some Jvm.ClassFile.FieldType.long)).before args0 about1 = true := code_word (m := ⟨8, 5⟩) (meth := k8m5) (c := k8c5) (by decide +kernel) rfl rfl rfl (by decide +kernel)
set_option maxRecDepth 65536 in
theorem w_c22 : (Jvm.Cond.code ({ cls := "com/example/nosy_pool/nosypool/CheckoutStatistics", name := "busyP99Ms", desc := "()J" } : Jvm.MethodName) prog_3_method_10_code (1 : Nat) (Option.some Jvm.ClassFile.FieldType.long)).before args0 about1 = true := code_word (m := ⟨8, 6⟩) (meth := k8m6) (c := k8c6) (by decide +kernel) rfl rfl rfl (by decide +kernel)
set_option maxRecDepth 65536 in
theorem w_c23 : (Jvm.Cond.code ({ cls := "com/example/nosy_pool/nosypool/CheckoutStatistics", name := "busyRatio", desc := "()D" } : Jvm.MethodName) prog_3_method_11_code (1 : Nat) (Option.some Jvm.ClassFile.FieldType.double)).before args0 about1 = true := code_word (m := ⟨8, 7⟩) (meth := k8m7) (c := k8c7) (by decide +kernel) rfl rfl rfl (by decide +kernel)
set_option maxRecDepth 65536 in
theorem w_c24 : (Jvm.Cond.code ({ cls := "java/lang/Math", name := "max", desc := "(JJ)J" } : Jvm.MethodName) jdk_29_method_66_code (4 : Nat) (Option.some Jvm.ClassFile.FieldType.long)).before args0 about1 = true := code_word (m := ⟨3, 1⟩) (meth := k3m1) (c := k3c1) (by decide +kernel) rfl rfl rfl (by decide +kernel)
def codes1 : List Jvm.Cond := [Jvm.Cond.code x code maxLocals ret, Jvm.Cond.code ({ cls := "com/example/nosy_pool/nosypool/CheckoutHistory", name := "<init>", desc := "()V" } : Jvm.MethodName) prog_1_method_1_code (1 : Nat) (Option.none : Option Jvm.ClassFile.FieldType), Jvm.Cond.code ({ cls := "com/example/nosy_pool/nosypool/CheckoutHistory", name := "<init>", desc := "([J[JJJ)V" } : Jvm.MethodName) prog_1_method_2_code (7 : Nat) (Option.none : Option Jvm.ClassFile.FieldType), Jvm.Cond.code ({ cls := "java/lang/Object", name := "<init>", desc := "()V" } : Jvm.MethodName) object_method_1_code (1 : Nat) (Option.none : Option Jvm.ClassFile.FieldType), Jvm.Cond.code ({ cls := "com/example/nosy_pool/nosypool/CheckoutHistory", name := "record", desc := "(JJZ)V" } : Jvm.MethodName) prog_1_method_3_code (7 : Nat) (Option.none : Option Jvm.ClassFile.FieldType), Jvm.Cond.code ({ cls := "com/example/nosy_pool/nosypool/CheckoutHistory", name := "statistics", desc := "()Lcom/example/nosy_pool/nosypool/CheckoutStatistics;" } : Jvm.MethodName) prog_1_method_5_code (10 : Nat) (Option.some (Jvm.ClassFile.FieldType.object "com/example/nosy_pool/nosypool/CheckoutStatistics")), Jvm.Cond.code ({ cls := "java/lang/Math", name := "min", desc := "(JJ)J" } : Jvm.MethodName) jdk_29_method_70_code (4 : Nat) (Option.some Jvm.ClassFile.FieldType.long), Jvm.Cond.code ({ cls := "java/util/Arrays", name := "copyOf", desc := "([JI)[J" } : Jvm.MethodName) jdk_65_method_124_code (3 : Nat) (Option.some (Jvm.ClassFile.FieldType.array Jvm.ClassFile.FieldType.long)), Jvm.Cond.code ({ cls := "java/lang/Math", name := "min", desc := "(II)I" } : Jvm.MethodName) jdk_29_method_69_code (2 : Nat) (Option.some Jvm.ClassFile.FieldType.int), Jvm.Cond.code ({ cls := "java/util/Arrays", name := "sort", desc := "([J)V" } : Jvm.MethodName) jdk_65_method_4_code (1 : Nat) (Option.none : Option Jvm.ClassFile.FieldType), Jvm.Cond.code ({ cls := "java/util/DualPivotQuicksort", name := "sort", desc := "([JIII)V" } : Jvm.MethodName) jdk_2529_method_12_code (7 : Nat) (Option.none : Option Jvm.ClassFile.FieldType), Jvm.Cond.code ({ cls := "java/util/DualPivotQuicksort", name := "sort", desc := "(Ljava/util/DualPivotQuicksort$Sorter;[JIII)V" } : Jvm.MethodName) jdk_2529_method_13_code (25 : Nat) (Option.none : Option Jvm.ClassFile.FieldType), Jvm.Cond.code ({ cls := "java/util/DualPivotQuicksort", name := "insertionSort", desc := "([JII)V" } : Jvm.MethodName) jdk_2529_method_15_code (7 : Nat) (Option.none : Option Jvm.ClassFile.FieldType), Jvm.Cond.code ({ cls := "com/example/nosy_pool/nosypool/CheckoutHistory", name := "percentileMs", desc := "([JI)J" } : Jvm.MethodName) prog_1_method_6_code (3 : Nat) (Option.some Jvm.ClassFile.FieldType.long), Jvm.Cond.code ({ cls := "java/util/concurrent/TimeUnit", name := "toMillis", desc := "(J)J" } : Jvm.MethodName) jdk_2799_method_9_code (7 : Nat) (Option.some Jvm.ClassFile.FieldType.long), Jvm.Cond.code ({ cls := "com/example/nosy_pool/nosypool/CheckoutStatistics", name := "<init>", desc := "(JJJJJJD)V" } : Jvm.MethodName) prog_3_method_1_code (15 : Nat) (Option.none : Option Jvm.ClassFile.FieldType), Jvm.Cond.code ({ cls := "java/lang/Record", name := "<init>", desc := "()V" } : Jvm.MethodName) jdk_30_method_1_code (1 : Nat) (Option.none : Option Jvm.ClassFile.FieldType), Jvm.Cond.code ({ cls := "com/example/nosy_pool/nosypool/CheckoutStatistics", name := "count", desc := "()J" } : Jvm.MethodName) prog_3_method_5_code (1 : Nat) (Option.some Jvm.ClassFile.FieldType.long), Jvm.Cond.code ({ cls := "com/example/nosy_pool/nosypool/CheckoutStatistics", name := "rolledBack", desc := "()J" } : Jvm.MethodName) prog_3_method_6_code (1 : Nat) (Option.some Jvm.ClassFile.FieldType.long), Jvm.Cond.code ({ cls := "com/example/nosy_pool/nosypool/CheckoutStatistics", name := "holdP50Ms", desc := "()J" } : Jvm.MethodName) prog_3_method_7_code (1 : Nat) (Option.some Jvm.ClassFile.FieldType.long), Jvm.Cond.code ({ cls := "com/example/nosy_pool/nosypool/CheckoutStatistics", name := "holdP99Ms", desc := "()J" } : Jvm.MethodName) prog_3_method_8_code (1 : Nat) (Option.some Jvm.ClassFile.FieldType.long), Jvm.Cond.code ({ cls := "com/example/nosy_pool/nosypool/CheckoutStatistics", name := "busyP50Ms", desc := "()J" } : Jvm.MethodName) prog_3_method_9_code (1 : Nat) (Option.some Jvm.ClassFile.FieldType.long), Jvm.Cond.code ({ cls := "com/example/nosy_pool/nosypool/CheckoutStatistics", name := "busyP99Ms", desc := "()J" } : Jvm.MethodName) prog_3_method_10_code (1 : Nat) (Option.some Jvm.ClassFile.FieldType.long), Jvm.Cond.code ({ cls := "com/example/nosy_pool/nosypool/CheckoutStatistics", name := "busyRatio", desc := "()D" } : Jvm.MethodName) prog_3_method_11_code (1 : Nat) (Option.some Jvm.ClassFile.FieldType.double), Jvm.Cond.code ({ cls := "java/lang/Math", name := "max", desc := "(JJ)J" } : Jvm.MethodName) jdk_29_method_66_code (4 : Nat) (Option.some Jvm.ClassFile.FieldType.long)]
set_option maxRecDepth 65536 in
theorem codes_eq : words1.filter isCode = codes1 := rfl
theorem w_codes : ∀ c ∈ words1.filter isCode, c.before args0 about1 = true := by
  rw [codes_eq]
  intro c hc
  simp only [codes1, List.mem_cons, List.not_mem_nil, or_false] at hc
  rcases hc with rfl | rfl | rfl | rfl | rfl | rfl | rfl | rfl | rfl | rfl | rfl | rfl | rfl | rfl | rfl | rfl | rfl | rfl | rfl | rfl | rfl | rfl | rfl | rfl | rfl
  · exact w_c0
  · exact w_c1
  · exact w_c2
  · exact w_c3
  · exact w_c4
  · exact w_c5
  · exact w_c6
  · exact w_c7
  · exact w_c8
  · exact w_c9
  · exact w_c10
  · exact w_c11
  · exact w_c12
  · exact w_c13
  · exact w_c14
  · exact w_c15
  · exact w_c16
  · exact w_c17
  · exact w_c18
  · exact w_c19
  · exact w_c20
  · exact w_c21
  · exact w_c22
  · exact w_c23
  · exact w_c24
set_option maxRecDepth 65536 in
theorem w_t1 : (words1.take 24).all (fun c => isCode c || c.before args0 about1) = true := by decide +kernel
set_option maxRecDepth 65536 in
theorem w_t2 : ((words1.drop 24).take 24).all (fun c => isCode c || c.before args0 about1) = true := by decide +kernel
set_option maxRecDepth 65536 in
theorem w_t3 : (((words1.drop 24).drop 24).take 24).all (fun c => isCode c || c.before args0 about1) = true := by decide +kernel
set_option maxRecDepth 65536 in
theorem w_t4 : ((((words1.drop 24).drop 24).drop 24).take 24).all (fun c => isCode c || c.before args0 about1) = true := by decide +kernel
set_option maxRecDepth 65536 in
theorem w_t5 : (((((words1.drop 24).drop 24).drop 24).drop 24).take 24).all (fun c => isCode c || c.before args0 about1) = true := by decide +kernel
set_option maxRecDepth 65536 in
theorem w_t6 : (((((words1.drop 24).drop 24).drop 24).drop 24).drop 24).all (fun c => isCode c || c.before args0 about1) = true := by decide +kernel
theorem w_tables : (allAtoms (Jvm.Cond.code x code maxLocals ret :: tables_1)).before args0 about1 = true := by
  rw [allAtoms_all]
  show words1.all (fun c => c.before args0 about1) = true
  refine all_split ?_ w_codes
  rw [← List.take_append_drop 24 words1, List.all_append, w_t1, ← List.take_append_drop 24 (words1.drop 24), List.all_append, w_t2, ← List.take_append_drop 24 ((words1.drop 24).drop 24), List.all_append, w_t3, ← List.take_append_drop 24 (((words1.drop 24).drop 24).drop 24), List.all_append, w_t4, ← List.take_append_drop 24 ((((words1.drop 24).drop 24).drop 24).drop 24), List.all_append, w_t5, w_t6]
  rfl
set_option maxRecDepth 65536 in
theorem w_rest : rest_1_c.before args0 about1 = true := by decide +kernel
set_option maxRecDepth 65536 in
theorem w_case : (Jvm.Cond.and given_1 narrow_1).before args0 about1 = true := by decide +kernel
theorem w_applies : (headSpec (Jvm.Cond.code x code maxLocals ret :: tables_1) room_1).applies x e0.platform about1 = true :=
  (Spec.applies_iff w_frames).mpr ⟨w_running, w_runnable, w_alone, w_named, w_hears, w_ripe, w_room, w_tables⟩
theorem atStart : AtStart classFile x code maxLocals ret World_1 tables_1 room_1 Calls_1 rest_1 Pre_1 launch0 p0 e0 about1 theMethod args0 below0 :=
  ⟨lists_1, trivial, launch0.admits_env _ _ _, launch0.least_env, fairChoices_fair.cas, fairChoices_fair.clock, w_frames, w_args, w_heap, w_applies, trivial, w_rest, w_case⟩
end start1
theorem witness_1 : WitnessClaimed_1 := ⟨start1.p0, start1.e0, start1.about1, start1.theMethod, start1.args0, start1.below0, start1.atStart⟩
end Jvm.Pilot.@@N@@
