import JvmDerived
import JvmDerived.Pilot.@@N@@Statement
import JvmDerived.Pilot.@@N@@Code
set_option linter.unusedVariables false
set_option linter.unusedSimpArgs false
namespace Jvm.Pilot.@@N@@
open Jvm Jvm.ClassFile Sem Op Lib Jvm.Free Jvm.Stand Jvm.LawKit Jvm.RoadKit Bundle Jvm.Pilot.@@N@@.Jvm.D
/-! The end of a walk, as a goal: from U the run ends, and G holds of the end. -/
def WP (p : Program) (e : Env) (below : List Frame) (G : State → Outcome → Prop) (U : State) : Prop :=
  ∃ s₂ o, Steps p.tables e below U s₂ ∧ s₂.status = .running ∧ Ended s₂ below o ∧ G s₂ o
def GG (Q : Option Value → Heap → List Loc → Prop) (s : State) (k n : Nat) : State → Outcome → Prop :=
  fun t o => ∃ v L, o = .returned v ∧ Q v t.heap L ∧ FrameEnd s o t L k n
theorem own_go {p : Program} {e : Env} {below : List Frame} {G : State → Outcome → Prop} {U V : State} (h : ∀ t, Steps p.tables e below V t → Steps p.tables e below U t) (w : WP p e below G V) : WP p e below G U := by
  obtain ⟨t, o, h1, h2⟩ := w
  exact ⟨t, o, h _ h1, h2⟩
/-- what a body that writes nothing leaves -/
def PQ (h0 : Heap) (n0 : Nat) (w : Value) (v : Option Value) (h : Heap) (L : List Loc) : Prop := v = some w ∧ Fr n0 L ∧ h = h0
/-- what the law leaves -/
def Q0 (n0 : Nat) (v : Option Value) (h : Heap) (L : List Loc) : Prop := v = some (.int 1) ∧ Fr n0 L
section Own
variable {p : Program} {l : Launch} {e : Env} {R : Room} {s : State} {m : MethodId} {args : Array Value} {below : List Frame} {meth : Method} {c : Code} {T : State} {locs : List Loc} {cells slots : Nat}
theorem own_mono (X : Stand p l e R s m args below meth c T locs cells slots) {k n : Nat} (h1 : cells ≤ k) (h2 : slots ≤ n) : Stand p l e R s m args below meth c T locs k n :=
  ⟨X.admits, X.cas, X.clock, X.frames, X.room, X.hears, X.method, X.code, X.here, X.tail, X.warmed, X.limits, X.bytes, X.same.mono h1 h2⟩
theorem own_retI (X : Stand p l e R s m args below meth c T locs cells slots) (hx : p.tables.exec = Jvm.exec) (hnl : meth.locks = false) (hret : meth.sig.returnType = some .int) {pc : Nat} {Ls : Array Slot} {z : Int32} {rest : List Value} (hd : decode c.code pc = .ok (.ireturn, 1)) {Q : Option Value → Heap → List Loc → Prop} {k n : Nat}
    (hq : Q (some (.int z)) T.heap locs) (hc : cells ≤ k) (hs : slots ≤ n) : WP p e below (GG Q s k n) (T.setTop (mkF m pc Ls (.int z :: rest))) := by
  obtain ⟨fs, hr, hrun, hended, hW, hsame⟩ := X.leave (v := some (.int z)) (fun h => by rw [hret] at h; cases h) hnl
  exact ⟨_, _, retOut X hx hret rfl (Or.inl ⟨rfl, Or.inl rfl, z, rfl⟩) hd hr, hrun, hended, _, _, rfl, hq, ⟨_, rfl⟩, hW, hsame.mono hc hs⟩
theorem own_retN (X : Stand p l e R s m args below meth c T locs cells slots) (hx : p.tables.exec = Jvm.exec) (hnl : meth.locks = false) {t : FieldType} (hret : meth.sig.returnType = some t) (ht : t = .boolean ∨ t = .byte ∨ t = .char ∨ t = .short) {pc : Nat} {Ls : Array Slot} {z : Int32} {rest : List Value} (hd : decode c.code pc = .ok (.ireturn, 1)) {Q : Option Value → Heap → List Loc → Prop} {k n : Nat}
    (hq : Q (some (.int (nar t z))) T.heap locs) (hc : cells ≤ k) (hs : slots ≤ n) : WP p e below (GG Q s k n) (T.setTop (mkF m pc Ls (.int z :: rest))) := by
  obtain ⟨fs, hr, hrun, hended, hW, hsame⟩ := X.leave (v := some (.int (nar t z))) (fun h => by rw [hret] at h; cases h) hnl
  exact ⟨_, _, retN X hx hret ht hd hr, hrun, hended, _, _, rfl, hq, ⟨_, rfl⟩, hW, hsame.mono hc hs⟩
theorem own_retZ (X : Stand p l e R s m args below meth c T locs cells slots) (hx : p.tables.exec = Jvm.exec) (hnl : meth.locks = false) (hret : meth.sig.returnType = some .boolean) {pc : Nat} {Ls : Array Slot} {z : Int32} {rest : List Value} (hd : decode c.code pc = .ok (.ireturn, 1)) (hz : z = 0 ∨ z = 1) {Q : Option Value → Heap → List Loc → Prop} {k n : Nat}
    (hq : Q (some (.int z)) T.heap locs) (hc : cells ≤ k) (hs : slots ≤ n) : WP p e below (GG Q s k n) (T.setTop (mkF m pc Ls (.int z :: rest))) := by
  have hb : nar .boolean z = z := by rcases hz with rfl | rfl <;> rfl
  exact own_retN X hx hnl hret (Or.inl rfl) hd (by rw [hb]; exact hq) hc hs
theorem own_retC (X : Stand p l e R s m args below meth c T locs cells slots) (hx : p.tables.exec = Jvm.exec) (hnl : meth.locks = false) (hret : meth.sig.returnType = some .char) {pc : Nat} {Ls : Array Slot} {z : Int32} {rest : List Value} (hd : decode c.code pc = .ok (.ireturn, 1)) {Q : Option Value → Heap → List Loc → Prop} {k n : Nat}
    (hq : Q (some (.int z.toUInt32.toUInt16.toUInt32.toInt32)) T.heap locs) (hc : cells ≤ k) (hs : slots ≤ n) : WP p e below (GG Q s k n) (T.setTop (mkF m pc Ls (.int z :: rest))) :=
  own_retN X hx hnl hret (Or.inr (Or.inr (Or.inl rfl))) hd hq hc hs
theorem own_retB (X : Stand p l e R s m args below meth c T locs cells slots) (hx : p.tables.exec = Jvm.exec) (hnl : meth.locks = false) (hret : meth.sig.returnType = some .byte) {pc : Nat} {Ls : Array Slot} {z : Int32} {rest : List Value} (hd : decode c.code pc = .ok (.ireturn, 1)) {Q : Option Value → Heap → List Loc → Prop} {k n : Nat}
    (hq : Q (some (.int z.toInt8.toInt32)) T.heap locs) (hc : cells ≤ k) (hs : slots ≤ n) : WP p e below (GG Q s k n) (T.setTop (mkF m pc Ls (.int z :: rest))) :=
  own_retN X hx hnl hret (Or.inr (Or.inl rfl)) hd hq hc hs
theorem own_retJ (X : Stand p l e R s m args below meth c T locs cells slots) (hx : p.tables.exec = Jvm.exec) (hnl : meth.locks = false) (hret : meth.sig.returnType = some .long) {pc : Nat} {Ls : Array Slot} {z : Int64} {rest : List Value} (hd : decode c.code pc = .ok (.lreturn, 1)) {Q : Option Value → Heap → List Loc → Prop} {k n : Nat}
    (hq : Q (some (.long z)) T.heap locs) (hc : cells ≤ k) (hs : slots ≤ n) : WP p e below (GG Q s k n) (T.setTop (mkF m pc Ls (.long z :: rest))) := by
  obtain ⟨fs, hr, hrun, hended, hW, hsame⟩ := X.leave (v := some (.long z)) (fun h => by rw [hret] at h; cases h) hnl
  exact ⟨_, _, retOut X hx hret rfl (Or.inr (Or.inl ⟨rfl, rfl, z, rfl⟩)) hd hr, hrun, hended, _, _, rfl, hq, ⟨_, rfl⟩, hW, hsame.mono hc hs⟩
theorem own_retA (X : Stand p l e R s m args below meth c T locs cells slots) (hx : p.tables.exec = Jvm.exec) (hnl : meth.locks = false) {t : FieldType} (hret : meth.sig.returnType = some t) (ht : t.isReference = true) {pc : Nat} {Ls : Array Slot} {w : Value} (hw : w.isRef = true) {rest : List Value} (hd : decode c.code pc = .ok (.areturn, 1)) {Q : Option Value → Heap → List Loc → Prop} {k n : Nat}
    (hq : Q (some w) T.heap locs) (hc : cells ≤ k) (hs : slots ≤ n) : WP p e below (GG Q s k n) (T.setTop (mkF m pc Ls (w :: rest))) := by
  obtain ⟨fs, hr, hrun, hended, hW, hsame⟩ := X.leave (v := some w) (fun h => by rw [hret] at h; cases h) hnl
  have hn : narrow t w = w := by cases t <;> first | rfl | (simp [FieldType.isReference] at ht)
  exact ⟨_, _, retOut X hx hret hn (Or.inr (Or.inr (Or.inr (Or.inr ⟨rfl, ht, hw⟩)))) hd hr, hrun, hended, _, _, rfl, hq, ⟨_, rfl⟩, hW, hsame.mono hc hs⟩
theorem own_ret0 (X : Stand p l e R s m args below meth c T locs cells slots) (hx : p.tables.exec = Jvm.exec) (hnl : meth.locks = false) (hret : meth.sig.returnType = none) {pc : Nat} {Ls : Array Slot} (hd : decode c.code pc = .ok (.return_, 1)) {Q : Option Value → Heap → List Loc → Prop} {k n : Nat}
    (hq : Q none T.heap locs) (hc : cells ≤ k) (hs : slots ≤ n) : WP p e below (GG Q s k n) (T.setTop (mkF m pc Ls [])) := by
  obtain ⟨fs, hr, hrun, hended, hW, hsame⟩ := X.leave (v := none) (fun _ => rfl) hnl
  exact ⟨_, _, X.returnOut hx hret hd hr, hrun, hended, _, _, rfl, hq, ⟨_, rfl⟩, hW, hsame.mono hc hs⟩
end Own

def LG (Z : State) (h : Heap) (a t : Addr) (k : ClassId) (xs : List Int64) : Prop :=
  Exa Z h a "com/example/vestry/vestry/Longs" ∧ Fld Z h a "com/example/vestry/vestry/Longs" "values" "[J" (.ref t) ∧ Fld Z h a "com/example/vestry/vestry/Longs" "size" "I" (.int (Int32.ofNat xs.length)) ∧ Arv Z h t k .long (1024 : Int32) (xs.map Value.long) (.long (0 : Int64)) ∧ a ≠ t
theorem own_len (n : Nat) (h : n < 1000) : (Int32.ofNat n).toInt = n ∧ (Int32.ofNat n).toNatClampNeg = n := by
  have e : (Int32.ofNat n).toInt = n := Int32.toInt_ofNat_small (by omega)
  refine ⟨e, ?_⟩
  simp only [Int32.toNatClampNeg, e]; omega
theorem own_full (n : Nat) (h : n < 1000) : ¬ (Int32.ofNat n = (1024 : Int32)) := fun q => by
  have e := (own_len n h).1
  rw [q] at e
  have o : (1024 : Int32).toInt = 1024 := rfl
  omega
theorem own_inb (n : Nat) (h : n < 1000) : ¬ Int32.ofNat n < 0 ∧ Int32.ofNat n < (1024 : Int32) := by
  have e := (own_len n h).1
  have o : (1024 : Int32).toInt = 1024 := rfl
  have o0 : (0 : Int32).toInt = 0 := rfl
  simp only [Int32.lt_iff_toInt_lt]
  omega
theorem own_put (xs : List Int64) (q : Int64) : ((xs.map Value.long) ++ List.replicate 1 (Value.long (0 : Int64))).set xs.length (.long q) = (xs ++ [q]).map Value.long := by
  rw [List.set_append_right _ _ (by simp)]
  simp
theorem own_succ (xs : List Int64) (q : Int64) (h : xs.length < 1000) : Int32.ofNat xs.length + 1 = Int32.ofNat (xs ++ [q]).length := by
  rw [List.length_append, Int32.ofNat_add]; rfl
def Q_rm_i2 (Z : State) (a1 : Addr) (a2 : Addr) (p3 : Int32) (h0 : Heap) (n0 : Nat) (v : Option Value) (h : Heap) (L : List Loc) : Prop := v = none ∧ Fr n0 L ∧ Keep h0 h [a1] ∧ Exa Z h a1 "com/example/vestry/vestry/Longs" ∧ Fld Z h a1 "com/example/vestry/vestry/Longs" "values" "[J" (.ref a2) ∧ Fld Z h a1 "com/example/vestry/vestry/Longs" "size" "I" (.int p3)
theorem d2_0 : decode prog_23_method_2_code 0 = .ok (.aload_n 0, 1) := by decide +kernel
theorem d2_1 : decode prog_23_method_2_code 1 = .ok (.invokespecial 9, 3) := by decide +kernel
theorem d2_4 : decode prog_23_method_2_code 4 = .ok (.aload_n 0, 1) := by decide +kernel
theorem d2_5 : decode prog_23_method_2_code 5 = .ok (.aload_n 1, 1) := by decide +kernel
theorem d2_6 : decode prog_23_method_2_code 6 = .ok (.putfield 14, 3) := by decide +kernel
theorem d2_9 : decode prog_23_method_2_code 9 = .ok (.aload_n 0, 1) := by decide +kernel
theorem d2_10 : decode prog_23_method_2_code 10 = .ok (.iload_n 2, 1) := by decide +kernel
theorem d2_11 : decode prog_23_method_2_code 11 = .ok (.putfield 18, 3) := by decide +kernel
theorem d2_14 : decode prog_23_method_2_code 14 = .ok (.return_, 1) := by decide +kernel
theorem pn_0 : plainName "com/example/vestry/vestry/Longs" = true := by first | (simp [plainName, overriddenIn]; done) | decide +kernel
theorem ef_rm_i2 (m : MethodId) (x0 : Addr) (x1 : Addr) (x2 : Int32) : entryFrame m #[(.ref x0), (.ref x1), (.int x2)] 3 = mkF m 0 #[.val (.ref x0), .val (.ref x1), .val (.int x2)] [] := by first | (simp [entryFrame, mkF, argsToLocals, Value.category]; done) | rfl
set_option maxRecDepth 65536 in
set_option maxHeartbeats 40000000 in
theorem rm_i2 (l : Launch) (Z : State) (a0 : Array Value) (hw : ∀ d ∈ tables_1, d.before a0 Z = true) (ws : List Jvm.Cond) (a1 : Addr) (a2 : Addr) (p3 : Int32) (h0 : Heap) (n0 : Nat) (E_a : Exa Z h0 a1 "com/example/vestry/vestry/Longs") (g_a : n0 ≤ a1) (F_v : Fld Z h0 a1 "com/example/vestry/vestry/Longs" "values" "[J" .null) (F_s : Fld Z h0 a1 "com/example/vestry/vestry/Longs" "size" "I" (.int (0 : Int32))) :
    MetFree l (⟨"com/example/vestry/vestry/Longs", "<init>", "([JI)V"⟩ : MethodName) (head1 (Jvm.Cond.code (⟨"com/example/vestry/vestry/Longs", "<init>", "([JI)V"⟩ : MethodName) prog_23_method_2_code 3 none :: ws) ({ frames := 1, cells := 0, slots := 0, locals := 12 } : Room)) (fun a U => a = #[(.ref a1), (.ref a2), (.int p3)] ∧ Z.Warmed39 U.vm ∧ U.heap = h0) (fun _ _ _ _ _ => True) (fun _ U o U' => ∃ v L, o = .returned v ∧ (Q_rm_i2 Z a1 a2 p3 h0 n0) v U'.heap L ∧ FrameEnd U o U' L ({ frames := 1, cells := 0, slots := 0, locals := 12 } : Room).cells ({ frames := 1, cells := 0, slots := 0, locals := 12 } : Room).slots) := by
  refine MetFree.of_bodySF (plainFor_of_name pn_0) hisR ?_
  intro p e s m args below meth c s₁ Bd hml0 hP hK
  obtain ⟨rfl, hZ, hh⟩ := hP
  have hx := Bd.exec
  have hby := Bd.bytes
  have hml : c.maxLocals = 3 := hml0
  have hown : s.vm.findClass "com/example/vestry/vestry/Longs" = some m.cls := findClass_of_methodNamed Bd.named
  have hnm := (name_of_methodNamed Bd.named Bd.method).1
  have X0 : Stand p l e ({ frames := 1, cells := 0, slots := 0, locals := 12 } : Room) s m #[(.ref a1), (.ref a2), (.int p3)] below meth c s₁ [] 0 0 := Stand.of_body Bd
  have e0 : s₁.heap = h0 := by rw [← hh, Bd.state]; rfl
  have N0 := Fr.nil n0
  show WP p e below (GG (Q_rm_i2 Z a1 a2 p3 h0 n0) s ({ frames := 1, cells := 0, slots := 0, locals := 12 } : Room).cells ({ frames := 1, cells := 0, slots := 0, locals := 12 } : Room).slots) (s₁.setTop (entryFrame m #[(.ref a1), (.ref a2), (.int p3)] 3))
  rw [ef_rm_i2 m a1 a2 p3]
  show WP p e below _ (s₁.setTop (mkF m 0 #[.val (.ref a1), .val (.ref a2), .val (.int p3)] []))
  refine own_go (fun t_ k => XS.aloadN X0.here hx rfl (hb hby d2_0) rfl rfl k) ?_
  show WP p e below _ (s₁.setTop (mkF m 1 #[.val (.ref a1), .val (.ref a2), .val (.int p3)] [(.ref a1)]))
  obtain ⟨T1, X1, e1, st1⟩ := initO X0 hx hZ hown (hw _ (List.mem_of_getElem? (i := 10) rfl)) (hw _ (List.mem_of_getElem? (i := 11) rfl)) (hw _ (List.mem_of_getElem? (i := 12) rfl)) e0 (g := (mkF m 1 #[.val (.ref a1), .val (.ref a2), .val (.int p3)] [(.ref a1)])) rfl (by rw [hml]; rfl) rfl (hb hby d2_1) (by decide) (W := 0) (by show 2 * 0 + _ ≤ _; exact Nat.le_of_eq rfl) (by decide)
  refine own_go st1 ?_
  show WP p e below _ (T1.setTop (mkF m 4 #[.val (.ref a1), .val (.ref a2), .val (.int p3)] []))
  refine own_go (fun t_ k => XS.aloadN X1.here hx rfl (hb hby d2_4) rfl rfl k) ?_
  show WP p e below _ (T1.setTop (mkF m 5 #[.val (.ref a1), .val (.ref a2), .val (.int p3)] [(.ref a1)]))
  refine own_go (fun t_ k => XS.aloadN X1.here hx rfl (hb hby d2_5) rfl rfl k) ?_
  show WP p e below _ (T1.setTop (mkF m 6 #[.val (.ref a1), .val (.ref a2), .val (.int p3)] [(.ref a2), (.ref a1)]))
  obtain ⟨T2, h2, X2, e2, W2, st2⟩ := putF X1 hx hZ hown (host := "") (Or.inl (hw _ (List.mem_of_getElem? (i := 13) rfl))) Via.refl e1 F_v E_a (Or.inl (hw _ (List.mem_of_getElem? (i := 14) rfl))) (hw _ (List.mem_of_getElem? (i := 1) rfl)) (ty := (.array .long)) (by decide) rfl rfl (g := (mkF m 6 #[.val (.ref a1), .val (.ref a2), .val (.int p3)] [(.ref a2), (.ref a1)])) rfl rfl (hb hby d2_6)
  refine own_go st2 ?_
  have Fw2 := F_v.same W2
  have N2 := Fr.snoc X2 N0 g_a
  have K2 : Keep h0 h2 [a1] := (Keep.refl h0 [a1]).wr W2 (Or.inl (List.mem_of_getElem? (i := 0) rfl))
  show WP p e below _ (T2.setTop (mkF m 9 #[.val (.ref a1), .val (.ref a2), .val (.int p3)] []))
  refine own_go (fun t_ k => XS.aloadN X2.here hx rfl (hb hby d2_9) rfl rfl k) ?_
  show WP p e below _ (T2.setTop (mkF m 10 #[.val (.ref a1), .val (.ref a2), .val (.int p3)] [(.ref a1)]))
  refine own_go (fun t_ k => XS.iloadN X2.here hx rfl (hb hby d2_10) rfl k) ?_
  show WP p e below _ (T2.setTop (mkF m 11 #[.val (.ref a1), .val (.ref a2), .val (.int p3)] [(.int p3), (.ref a1)]))
  obtain ⟨T3, h3, X3, e3, W3, st3⟩ := putF X2 hx hZ hown (host := "") (Or.inl (hw _ (List.mem_of_getElem? (i := 15) rfl))) Via.refl e2 (F_s.other W2 (Or.inr (slot_ne (Or.inl (hw _ (List.mem_of_getElem? (i := 16) rfl))) (Or.inl (hw _ (List.mem_of_getElem? (i := 14) rfl))) (by decide) (t := .int) (t' := (.array .long)) (by decide) (by decide)))) (E_a.wr W2) (Or.inl (hw _ (List.mem_of_getElem? (i := 16) rfl))) (hw _ (List.mem_of_getElem? (i := 1) rfl)) (ty := .int) (by decide) rfl rfl (g := (mkF m 11 #[.val (.ref a1), .val (.ref a2), .val (.int p3)] [(.int p3), (.ref a1)])) rfl rfl (hb hby d2_11)
  refine own_go st3 ?_
  have Fw3 := (F_s.other W2 (Or.inr (slot_ne (Or.inl (hw _ (List.mem_of_getElem? (i := 16) rfl))) (Or.inl (hw _ (List.mem_of_getElem? (i := 14) rfl))) (by decide) (t := .int) (t' := (.array .long)) (by decide) (by decide)))).same W3
  have N3 := Fr.snoc X3 N2 g_a
  have K3 : Keep h0 h3 [a1] := K2.wr W3 (Or.inl (List.mem_of_getElem? (i := 0) rfl))
  show WP p e below _ (T3.setTop (mkF m 14 #[.val (.ref a1), .val (.ref a2), .val (.int p3)] []))
  exact own_ret0 X3 hx Bd.notSynchronized Bd.returns (hb hby d2_14) (by rw [e3]; exact ⟨rfl, N3, K3, ((E_a.wr W2).wr W3), (Fw2.other W3 (Or.inr (slot_ne (Or.inl (hw _ (List.mem_of_getElem? (i := 14) rfl))) (Or.inl (hw _ (List.mem_of_getElem? (i := 16) rfl))) (by decide) (t := (.array .long)) (t' := .int) (by decide) (by decide)))), Fw3⟩) (by decide) (by decide)
def Q_rm_i0 (Z : State) (a1 : Addr) (h0 : Heap) (n0 : Nat) (v : Option Value) (h : Heap) (L : List Loc) : Prop := v = none ∧ Fr n0 L ∧ Keep h0 h [a1] ∧ ∃ t k, n0 ≤ t ∧ h0.size ≤ t ∧ LG Z h a1 t k []
theorem pd_0 : parseMethodDescriptor "([JI)V" = some ⟨[(.array .long), .int], none⟩ := by decide +kernel
theorem d1_0 : decode prog_23_method_1_code 0 = .ok (.aload_n 0, 1) := by decide +kernel
theorem d1_1 : decode prog_23_method_1_code 1 = .ok (.sipush 1024, 3) := by decide +kernel
theorem d1_4 : decode prog_23_method_1_code 4 = .ok (.newarray .long, 2) := by decide +kernel
theorem d1_6 : decode prog_23_method_1_code 6 = .ok (.iconst 0, 1) := by decide +kernel
theorem d1_7 : decode prog_23_method_1_code 7 = .ok (.invokespecial 5, 3) := by decide +kernel
theorem d1_10 : decode prog_23_method_1_code 10 = .ok (.return_, 1) := by decide +kernel
theorem ef_rm_i0 (m : MethodId) (x0 : Addr) : entryFrame m #[(.ref x0)] 1 = mkF m 0 #[.val (.ref x0)] [] := by first | (simp [entryFrame, mkF, argsToLocals, Value.category]; done) | rfl
set_option maxRecDepth 65536 in
set_option maxHeartbeats 40000000 in
theorem rm_i0 (l : Launch) (Z : State) (a0 : Array Value) (hw : ∀ d ∈ tables_1, d.before a0 Z = true) (ws : List Jvm.Cond) (a1 : Addr) (h0 : Heap) (n0 : Nat) (Z0 : n0 ≤ h0.size) (E_a : Exa Z h0 a1 "com/example/vestry/vestry/Longs") (g_a : n0 ≤ a1) (F_v : Fld Z h0 a1 "com/example/vestry/vestry/Longs" "values" "[J" .null) (F_s : Fld Z h0 a1 "com/example/vestry/vestry/Longs" "size" "I" (.int (0 : Int32))) :
    MetFree l (⟨"com/example/vestry/vestry/Longs", "<init>", "()V"⟩ : MethodName) (head1 (Jvm.Cond.code (⟨"com/example/vestry/vestry/Longs", "<init>", "()V"⟩ : MethodName) prog_23_method_1_code 1 none :: ws) ({ frames := 2, cells := 1, slots := 1024, locals := 26 } : Room)) (fun a U => a = #[(.ref a1)] ∧ Z.Warmed39 U.vm ∧ U.heap = h0) (fun _ _ _ _ _ => True) (fun _ U o U' => ∃ v L, o = .returned v ∧ (Q_rm_i0 Z a1 h0 n0) v U'.heap L ∧ FrameEnd U o U' L ({ frames := 2, cells := 1, slots := 1024, locals := 26 } : Room).cells ({ frames := 2, cells := 1, slots := 1024, locals := 26 } : Room).slots) := by
  refine MetFree.of_bodySF (plainFor_of_name pn_0) hisR ?_
  intro p e s m args below meth c s₁ Bd hml0 hP hK
  obtain ⟨rfl, hZ, hh⟩ := hP
  have hx := Bd.exec
  have hby := Bd.bytes
  have hml : c.maxLocals = 1 := hml0
  have hown : s.vm.findClass "com/example/vestry/vestry/Longs" = some m.cls := findClass_of_methodNamed Bd.named
  have hnm := (name_of_methodNamed Bd.named Bd.method).1
  have X0 : Stand p l e ({ frames := 2, cells := 1, slots := 1024, locals := 26 } : Room) s m #[(.ref a1)] below meth c s₁ [] 0 0 := Stand.of_body Bd
  have e0 : s₁.heap = h0 := by rw [← hh, Bd.state]; rfl
  have N0 := Fr.nil n0
  show WP p e below (GG (Q_rm_i0 Z a1 h0 n0) s ({ frames := 2, cells := 1, slots := 1024, locals := 26 } : Room).cells ({ frames := 2, cells := 1, slots := 1024, locals := 26 } : Room).slots) (s₁.setTop (entryFrame m #[(.ref a1)] 1))
  rw [ef_rm_i0 m a1]
  show WP p e below _ (s₁.setTop (mkF m 0 #[.val (.ref a1)] []))
  refine own_go (fun t_ k => XS.aloadN X0.here hx rfl (hb hby d1_0) rfl rfl k) ?_
  show WP p e below _ (s₁.setTop (mkF m 1 #[.val (.ref a1)] [(.ref a1)]))
  refine own_go (fun t_ k => XS.sipush X0.here hx rfl (hb hby d1_1) k) ?_
  show WP p e below _ (s₁.setTop (mkF m 4 #[.val (.ref a1)] [(.int (1024 : Int32)), (.ref a1)]))
  obtain ⟨T1, h1, k1, X1, e1, E1, A1, st1⟩ := newP X0 hx hZ (hw _ (List.mem_of_getElem? (i := 6) rfl)) e0 (g := (mkF m 4 #[.val (.ref a1)] [(.int (1024 : Int32)), (.ref a1)])) rfl (hb hby d1_4) rfl (by decide) (cap := 1024) (by decide) (by decide) (by decide) (by decide)
  obtain ⟨b1, g1⟩ : ∃ z, z = Array.size h0 := ⟨_, rfl⟩
  rw [← g1] at A1 st1
  refine own_go st1 ?_
  have g_b1 : n0 ≤ b1 := Nat.le_trans (Nat.le_trans Z0 (Keep.refl h0 [a1]).1) (Nat.le_of_eq g1.symm)
  have sz_b1 : h0.size ≤ b1 := Nat.le_trans (Keep.refl h0 [a1]).1 (Nat.le_of_eq g1.symm)
  have ne_a1_b1 : a1 ≠ b1 := Nat.ne_of_lt (Nat.lt_of_lt_of_le E_a.lt (Nat.le_of_eq g1.symm))
  have K1 : Keep h0 h1 [a1] := (Keep.refl h0 [a1]).ext E1
  have V1 : Arv Z h1 b1 k1 .long (1024 : Int32) [] (.long (0 : Int64)) := Arv.new A1 (by decide)
  show WP p e below _ (T1.setTop (mkF m 6 #[.val (.ref a1)] [(.ref b1), (.ref a1)]))
  refine own_go (fun t_ k => XS.iconst X1.here hx rfl (hb hby d1_6) k) ?_
  show WP p e below _ (T1.setTop (mkF m 7 #[.val (.ref a1)] [(.int (0 : Int32)), (.ref b1), (.ref a1)]))
  obtain ⟨_, _, ⟨T2, L2, k2, n2⟩, -, X2, ⟨Lc2, hQ2, l2, y2, z2⟩, st2⟩ := X1.specialBack hx (y := (⟨"com/example/vestry/vestry/Longs", "<init>", "([JI)V"⟩ : MethodName)) rfl hown (mvT hZ (hw _ (List.mem_of_getElem? (i := 7) rfl))) (mvT hZ (hw _ (List.mem_of_getElem? (i := 8) rfl))) (mvT hZ (hw _ (List.mem_of_getElem? (i := 9) rfl))) (by decide) (backOf (W := 0) (rm_i2 l Z a0 hw [] a1 b1 (0 : Int32) h1 n0 (E_a.ext E1) g_a (F_v.ext E1) (F_s.ext E1)) hZ (hw _ (List.mem_of_getElem? (i := 9) rfl)) (hw _ (List.mem_of_getElem? (i := 2) rfl)) (by decide) (by decide)) (g := (mkF m 7 #[.val (.ref a1)] [(.int (0 : Int32)), (.ref b1), (.ref a1)])) rfl (by rw [hml]; rfl) (Steps.refl _) (a := a1) (argsL := [(.ref b1), (.int (0 : Int32))]) (rest := []) (lenOf pd_0 rfl) rfl (by show 2 * 0 + _ ≤ _; exact Nat.le_of_eq rfl) (hb hby d1_7) (fun _ _ => ⟨rfl, e1, (by decide : 1 + 0 ≤ _), (by decide : 1024 + 0 ≤ _)⟩)
  dsimp only [Pt.U, Pt.locs, Pt.cells, Pt.slots] at X2 l2 y2 z2 st2 hQ2
  subst l2 y2 z2
  obtain ⟨rfl, N2q, K2c, E2c, Fv2, Fs2⟩ := hQ2
  have N2 := Fr.app N0 N2q
  replace X2 : Stand p l e ({ frames := 2, cells := 1, slots := 1024, locals := 26 } : Room) s m _ below meth c T2 _ 1 1024 := X2
  refine own_go (fun t_ k => st2.trans k) ?_
  have K2 : Keep h0 T2.heap [a1] := K1.trans K2c (allS (Or.inl (List.mem_of_getElem? (i := 0) rfl)) all0)
  show WP p e below _ (T2.setTop (mkF m 10 #[.val (.ref a1)] []))
  exact own_ret0 X2 hx Bd.notSynchronized Bd.returns (hb hby d1_10) (by (try rw [rfl]); exact ⟨rfl, N2, K2, b1, k1, g_b1, sz_b1, E2c, Fv2, Fs2, (V1.keep K2c (ninS (Ne.symm ne_a1_b1) nin0)), ne_a1_b1⟩) (by decide) (by decide)
def Q_rm_add (Z : State) (a1 : Addr) (q2 : Int64) (t : Addr) (k : ClassId) (xs : List Int64) (h0 : Heap) (n0 : Nat) (v : Option Value) (h : Heap) (L : List Loc) : Prop := v = none ∧ Fr n0 L ∧ Keep h0 h [a1, t] ∧ LG Z h a1 t k (xs ++ [q2])
theorem d4_0 : decode prog_23_method_3_code 0 = .ok (.aload_n 0, 1) := by decide +kernel
theorem d4_1 : decode prog_23_method_3_code 1 = .ok (.getfield 18, 3) := by decide +kernel
theorem d4_4 : decode prog_23_method_3_code 4 = .ok (.aload_n 0, 1) := by decide +kernel
theorem d4_5 : decode prog_23_method_3_code 5 = .ok (.getfield 14, 3) := by decide +kernel
theorem d4_8 : decode prog_23_method_3_code 8 = .ok (.arraylength, 1) := by decide +kernel
theorem d4_9 : decode prog_23_method_3_code 9 = .ok (.if_icmp .ne 57, 3) := by decide +kernel
theorem d4_66 : decode prog_23_method_3_code 66 = .ok (.aload_n 0, 1) := by decide +kernel
theorem d4_67 : decode prog_23_method_3_code 67 = .ok (.getfield 14, 3) := by decide +kernel
theorem d4_70 : decode prog_23_method_3_code 70 = .ok (.aload_n 0, 1) := by decide +kernel
theorem d4_71 : decode prog_23_method_3_code 71 = .ok (.getfield 18, 3) := by decide +kernel
theorem d4_74 : decode prog_23_method_3_code 74 = .ok (.lload_n 1, 1) := by decide +kernel
theorem d4_75 : decode prog_23_method_3_code 75 = .ok (.lastore, 1) := by decide +kernel
theorem d4_76 : decode prog_23_method_3_code 76 = .ok (.aload_n 0, 1) := by decide +kernel
theorem d4_77 : decode prog_23_method_3_code 77 = .ok (.dup, 1) := by decide +kernel
theorem d4_78 : decode prog_23_method_3_code 78 = .ok (.getfield 18, 3) := by decide +kernel
theorem d4_81 : decode prog_23_method_3_code 81 = .ok (.iconst 1, 1) := by decide +kernel
theorem d4_82 : decode prog_23_method_3_code 82 = .ok (.iadd, 1) := by decide +kernel
theorem d4_83 : decode prog_23_method_3_code 83 = .ok (.putfield 18, 3) := by decide +kernel
theorem d4_86 : decode prog_23_method_3_code 86 = .ok (.return_, 1) := by decide +kernel
theorem ef_rm_add (m : MethodId) (x0 : Addr) (x1 : Int64) : entryFrame m #[(.ref x0), (.long x1)] 5 = mkF m 0 #[.val (.ref x0), .val (.long x1), .second, .unset, .unset] [] := by first | (simp [entryFrame, mkF, argsToLocals, Value.category]; done) | rfl
set_option maxRecDepth 65536 in
set_option maxHeartbeats 40000000 in
theorem rm_add (l : Launch) (Z : State) (a0 : Array Value) (hw : ∀ d ∈ tables_1, d.before a0 Z = true) (ws : List Jvm.Cond) (a1 : Addr) (q2 : Int64) (t : Addr) (k : ClassId) (xs : List Int64) (h0 : Heap) (n0 : Nat) (G : LG Z h0 a1 t k xs) (g_a : n0 ≤ a1) (g_t : n0 ≤ t) (hl : xs.length < 1000) :
    MetFree l (⟨"com/example/vestry/vestry/Longs", "add", "(J)V"⟩ : MethodName) (head1 (Jvm.Cond.code (⟨"com/example/vestry/vestry/Longs", "add", "(J)V"⟩ : MethodName) prog_23_method_3_code 5 none :: ws) ({ frames := 0, cells := 0, slots := 0, locals := 0 } : Room)) (fun a U => a = #[(.ref a1), (.long q2)] ∧ Z.Warmed39 U.vm ∧ U.heap = h0) (fun _ _ _ _ _ => True) (fun _ U o U' => ∃ v L, o = .returned v ∧ (Q_rm_add Z a1 q2 t k xs h0 n0) v U'.heap L ∧ FrameEnd U o U' L ({ frames := 0, cells := 0, slots := 0, locals := 0 } : Room).cells ({ frames := 0, cells := 0, slots := 0, locals := 0 } : Room).slots) := by
  refine MetFree.of_bodySF (plainFor_of_name pn_0) hisR ?_
  intro p e s m args below meth c s₁ Bd hml0 hP hK
  obtain ⟨rfl, hZ, hh⟩ := hP
  have hx := Bd.exec
  have hby := Bd.bytes
  have hml : c.maxLocals = 5 := hml0
  have hown : s.vm.findClass "com/example/vestry/vestry/Longs" = some m.cls := findClass_of_methodNamed Bd.named
  have hnm := (name_of_methodNamed Bd.named Bd.method).1
  have X0 : Stand p l e ({ frames := 0, cells := 0, slots := 0, locals := 0 } : Room) s m #[(.ref a1), (.long q2)] below meth c s₁ [] 0 0 := Stand.of_body Bd
  have e0 : s₁.heap = h0 := by rw [← hh, Bd.state]; rfl
  have N0 := Fr.nil n0
  show WP p e below (GG (Q_rm_add Z a1 q2 t k xs h0 n0) s ({ frames := 0, cells := 0, slots := 0, locals := 0 } : Room).cells ({ frames := 0, cells := 0, slots := 0, locals := 0 } : Room).slots) (s₁.setTop (entryFrame m #[(.ref a1), (.long q2)] 5))
  rw [ef_rm_add m a1 q2]
  obtain ⟨E_a, F_v, F_s, V_t, ne_t⟩ := G
  have V_p := V_t.pad (pad_rep _ (Value.long (0 : Int64)) 1)
  show WP p e below _ (s₁.setTop (mkF m 0 #[.val (.ref a1), .val (.long q2), .second, .unset, .unset] []))
  refine own_go (fun t_ k => XS.aloadN X0.here hx rfl (hb hby d4_0) rfl rfl k) ?_
  show WP p e below _ (s₁.setTop (mkF m 1 #[.val (.ref a1), .val (.long q2), .second, .unset, .unset] [(.ref a1)]))
  obtain ⟨T1, X1, e1, st1⟩ := getF X0 hx hZ hown (host := "") (Or.inl (hw _ (List.mem_of_getElem? (i := 15) rfl))) Via.refl e0 F_s (g := (mkF m 1 #[.val (.ref a1), .val (.long q2), .second, .unset, .unset] [(.ref a1)])) rfl rfl (hb hby d4_1)
  refine own_go st1 ?_
  show WP p e below _ (T1.setTop (mkF m 4 #[.val (.ref a1), .val (.long q2), .second, .unset, .unset] [(.int (Int32.ofNat xs.length))]))
  refine own_go (fun t_ k => XS.aloadN X1.here hx rfl (hb hby d4_4) rfl rfl k) ?_
  show WP p e below _ (T1.setTop (mkF m 5 #[.val (.ref a1), .val (.long q2), .second, .unset, .unset] [(.ref a1), (.int (Int32.ofNat xs.length))]))
  obtain ⟨T2, X2, e2, st2⟩ := getF X1 hx hZ hown (host := "") (Or.inl (hw _ (List.mem_of_getElem? (i := 13) rfl))) Via.refl e1 F_v (g := (mkF m 5 #[.val (.ref a1), .val (.long q2), .second, .unset, .unset] [(.ref a1), (.int (Int32.ofNat xs.length))])) rfl rfl (hb hby d4_5)
  refine own_go st2 ?_
  show WP p e below _ (T2.setTop (mkF m 8 #[.val (.ref a1), .val (.long q2), .second, .unset, .unset] [(.ref t), (.int (Int32.ofNat xs.length))]))
  obtain ⟨cl3, Ar3, -, S3, M3, -, -⟩ := id (V_p)
  refine own_go (fun t_ k => X2.arraylength hx (by rw [e2]; exact Ar3.1) (State.isArrayOf_alike hZ.alike Ar3.2.1) (g := (mkF m 8 #[.val (.ref a1), .val (.long q2), .second, .unset, .unset] [(.ref t), (.int (Int32.ofNat xs.length))])) rfl rfl (hb hby d4_8) _ (by rw [len_of S3 M3]; exact k)) ?_
  show WP p e below _ (T2.setTop (mkF m 9 #[.val (.ref a1), .val (.long q2), .second, .unset, .unset] [(.int (1024 : Int32)), (.int (Int32.ofNat xs.length))]))
  have hc9_4 : ¬ ((Int32.ofNat xs.length) = (1024 : Int32)) := own_full _ hl
  refine own_go (fun t_ k => XS.icmpYes X2.here hx rfl (pc0 := 9) (pc' := 66) rfl (hb hby d4_9) rfl (feq hc9_4).2 (by decide) (by decide) k) ?_
  show WP p e below _ (T2.setTop (mkF m 66 #[.val (.ref a1), .val (.long q2), .second, .unset, .unset] []))
  refine own_go (fun t_ k => XS.aloadN X2.here hx rfl (hb hby d4_66) rfl rfl k) ?_
  show WP p e below _ (T2.setTop (mkF m 67 #[.val (.ref a1), .val (.long q2), .second, .unset, .unset] [(.ref a1)]))
  obtain ⟨T5, X5, e5, st5⟩ := getF X2 hx hZ hown (host := "") (Or.inl (hw _ (List.mem_of_getElem? (i := 13) rfl))) Via.refl e2 F_v (g := (mkF m 67 #[.val (.ref a1), .val (.long q2), .second, .unset, .unset] [(.ref a1)])) rfl rfl (hb hby d4_67)
  refine own_go st5 ?_
  show WP p e below _ (T5.setTop (mkF m 70 #[.val (.ref a1), .val (.long q2), .second, .unset, .unset] [(.ref t)]))
  refine own_go (fun t_ k => XS.aloadN X5.here hx rfl (hb hby d4_70) rfl rfl k) ?_
  show WP p e below _ (T5.setTop (mkF m 71 #[.val (.ref a1), .val (.long q2), .second, .unset, .unset] [(.ref a1), (.ref t)]))
  obtain ⟨T6, X6, e6, st6⟩ := getF X5 hx hZ hown (host := "") (Or.inl (hw _ (List.mem_of_getElem? (i := 15) rfl))) Via.refl e5 F_s (g := (mkF m 71 #[.val (.ref a1), .val (.long q2), .second, .unset, .unset] [(.ref a1), (.ref t)])) rfl rfl (hb hby d4_71)
  refine own_go st6 ?_
  show WP p e below _ (T6.setTop (mkF m 74 #[.val (.ref a1), .val (.long q2), .second, .unset, .unset] [(.int (Int32.ofNat xs.length)), (.ref t)]))
  refine own_go (fun t_ k => XS.lloadN X6.here hx rfl (hb hby d4_74) rfl k) ?_
  show WP p e below _ (T6.setTop (mkF m 75 #[.val (.ref a1), .val (.long q2), .second, .unset, .unset] [(.long q2), (.int (Int32.ofNat xs.length)), (.ref t)]))
  obtain ⟨cl7, Ar7, q7, S7, M7, H7, G7⟩ := id (V_p)
  have hin7 : ¬ ((Int32.ofNat xs.length) < 0 ∨ cl7.slots.size ≤ ((Int32.ofNat xs.length)).toNatClampNeg) := inb_of S7 (own_inb _ hl)
  obtain ⟨T8, h8, X8, e8, W8, st8⟩ := stJ X6 hx hZ e6 Ar7 (j := (Int32.ofNat xs.length)) hin7 (g := (mkF m 75 #[.val (.ref a1), .val (.long q2), .second, .unset, .unset] [(.long q2), (.int (Int32.ofNat xs.length)), (.ref t)])) rfl rfl (hb hby d4_75)
  refine own_go st8 ?_
  have V8 := Arv.set Ar7 q7 S7 M7 H7 G7 rfl W8 xs.length (own_len _ hl).2 (by simp)
  have N8 := Fr.snoc X8 N0 g_t
  have K8 : Keep h0 h8 [a1, t] := (Keep.refl h0 [a1, t]).wr W8 (Or.inl (List.mem_of_getElem? (i := 1) rfl))
  show WP p e below _ (T8.setTop (mkF m 76 #[.val (.ref a1), .val (.long q2), .second, .unset, .unset] []))
  refine own_go (fun t_ k => XS.aloadN X8.here hx rfl (hb hby d4_76) rfl rfl k) ?_
  show WP p e below _ (T8.setTop (mkF m 77 #[.val (.ref a1), .val (.long q2), .second, .unset, .unset] [(.ref a1)]))
  refine own_go (fun t_ k => XS.dup X8.here hx rfl (hb hby d4_77) rfl rfl k) ?_
  show WP p e below _ (T8.setTop (mkF m 78 #[.val (.ref a1), .val (.long q2), .second, .unset, .unset] [(.ref a1), (.ref a1)]))
  obtain ⟨T9, X9, e9, st9⟩ := getF X8 hx hZ hown (host := "") (Or.inl (hw _ (List.mem_of_getElem? (i := 15) rfl))) Via.refl e8 (F_s.other W8 (Or.inl ne_t)) (g := (mkF m 78 #[.val (.ref a1), .val (.long q2), .second, .unset, .unset] [(.ref a1), (.ref a1)])) rfl rfl (hb hby d4_78)
  refine own_go st9 ?_
  show WP p e below _ (T9.setTop (mkF m 81 #[.val (.ref a1), .val (.long q2), .second, .unset, .unset] [(.int (Int32.ofNat xs.length)), (.ref a1)]))
  refine own_go (fun t_ k => XS.iconst X9.here hx rfl (hb hby d4_81) k) ?_
  show WP p e below _ (T9.setTop (mkF m 82 #[.val (.ref a1), .val (.long q2), .second, .unset, .unset] [(.int (1 : Int32)), (.int (Int32.ofNat xs.length)), (.ref a1)]))
  refine own_go (fun t_ k => XS.iadd X9.here hx rfl (hb hby d4_82) rfl k) ?_
  show WP p e below _ (T9.setTop (mkF m 83 #[.val (.ref a1), .val (.long q2), .second, .unset, .unset] [(.int ((Int32.ofNat xs.length) + (1 : Int32))), (.ref a1)]))
  obtain ⟨T10, h10, X10, e10, W10, st10⟩ := putF X9 hx hZ hown (host := "") (Or.inl (hw _ (List.mem_of_getElem? (i := 15) rfl))) Via.refl e9 (F_s.other W8 (Or.inl ne_t)) (E_a.wr W8) (Or.inl (hw _ (List.mem_of_getElem? (i := 16) rfl))) (hw _ (List.mem_of_getElem? (i := 1) rfl)) (ty := .int) (by decide) rfl rfl (g := (mkF m 83 #[.val (.ref a1), .val (.long q2), .second, .unset, .unset] [(.int ((Int32.ofNat xs.length) + (1 : Int32))), (.ref a1)])) rfl rfl (hb hby d4_83)
  refine own_go st10 ?_
  have Fw10 := (F_s.other W8 (Or.inl ne_t)).same W10
  have N10 := Fr.snoc X10 N8 g_a
  have K10 : Keep h0 h10 [a1, t] := K8.wr W10 (Or.inl (List.mem_of_getElem? (i := 0) rfl))
  show WP p e below _ (T10.setTop (mkF m 86 #[.val (.ref a1), .val (.long q2), .second, .unset, .unset] []))
  exact own_ret0 X10 hx Bd.notSynchronized Bd.returns (hb hby d4_86) (by rw [e10]; exact ⟨rfl, N10, K10, ((E_a.wr W8).wr W10), ((F_v.other W8 (Or.inl ne_t)).other W10 (Or.inr (slot_ne (Or.inl (hw _ (List.mem_of_getElem? (i := 14) rfl))) (Or.inl (hw _ (List.mem_of_getElem? (i := 16) rfl))) (by decide) (t := (.array .long)) (t' := .int) (by decide) (by decide)))), (own_succ xs q2 hl ▸ Fw10), (own_put xs q2 ▸ (V8.other W10 (Ne.symm ne_t))), ne_t⟩) (by decide) (by decide)
theorem d7_0 : decode jdk_41_method_11_code 0 = .ok (.iload_n 0, 1) := by decide +kernel
theorem d7_1 : decode jdk_41_method_11_code 1 = .ok (.ifCond .lt 8, 3) := by decide +kernel
theorem d7_4 : decode jdk_41_method_11_code 4 = .ok (.iload_n 0, 1) := by decide +kernel
theorem d7_5 : decode jdk_41_method_11_code 5 = .ok (.iload_n 1, 1) := by decide +kernel
theorem d7_6 : decode jdk_41_method_11_code 6 = .ok (.if_icmp .lt 10, 3) := by decide +kernel
theorem d7_16 : decode jdk_41_method_11_code 16 = .ok (.iload_n 0, 1) := by decide +kernel
theorem d7_17 : decode jdk_41_method_11_code 17 = .ok (.ireturn, 1) := by decide +kernel
theorem pn_1 : plainName "jdk/internal/util/Preconditions" = true := by first | (simp [plainName, overriddenIn]; done) | decide +kernel
theorem ef_rm_chk2 (m : MethodId) (x0 : Int32) (x1 : Int32) : entryFrame m #[(.int x0), (.int x1), .null] 3 = mkF m 0 #[.val (.int x0), .val (.int x1), .val .null] [] := by first | (simp [entryFrame, mkF, argsToLocals, Value.category]; done) | rfl
set_option maxRecDepth 65536 in
set_option maxHeartbeats 40000000 in
theorem rm_chk2 (l : Launch) (Z : State) (a0 : Array Value) (hw : ∀ d ∈ tables_1, d.before a0 Z = true) (ws : List Jvm.Cond) (p1 : Int32) (p2 : Int32) (h0 : Heap) (n0 : Nat) (c0 : ¬ (p1 < (0 : Int32))) (c1 : p1 < p2) :
    MetFree l (⟨"jdk/internal/util/Preconditions", "checkIndex", "(IILjava/util/function/BiFunction;)I"⟩ : MethodName) (head1 (Jvm.Cond.code (⟨"jdk/internal/util/Preconditions", "checkIndex", "(IILjava/util/function/BiFunction;)I"⟩ : MethodName) jdk_41_method_11_code 3 (some .int) :: ws) ({ frames := 0, cells := 0, slots := 0, locals := 0 } : Room)) (fun a U => a = #[(.int p1), (.int p2), .null] ∧ Z.Warmed39 U.vm ∧ U.heap = h0) (fun _ _ _ _ _ => True) (fun _ U o U' => ∃ v L, o = .returned v ∧ (PQ h0 n0 (.int p1)) v U'.heap L ∧ FrameEnd U o U' L ({ frames := 0, cells := 0, slots := 0, locals := 0 } : Room).cells ({ frames := 0, cells := 0, slots := 0, locals := 0 } : Room).slots) := by
  refine MetFree.of_bodySF (plainFor_of_name pn_1) hisR ?_
  intro p e s m args below meth c s₁ Bd hml0 hP hK
  obtain ⟨rfl, hZ, hh⟩ := hP
  have hx := Bd.exec
  have hby := Bd.bytes
  have hml : c.maxLocals = 3 := hml0
  have hown : s.vm.findClass "jdk/internal/util/Preconditions" = some m.cls := findClass_of_methodNamed Bd.named
  have hnm := (name_of_methodNamed Bd.named Bd.method).1
  have X0 : Stand p l e ({ frames := 0, cells := 0, slots := 0, locals := 0 } : Room) s m #[(.int p1), (.int p2), .null] below meth c s₁ [] 0 0 := Stand.of_body Bd
  have e0 : s₁.heap = h0 := by rw [← hh, Bd.state]; rfl
  have N0 := Fr.nil n0
  show WP p e below (GG (PQ h0 n0 (.int p1)) s ({ frames := 0, cells := 0, slots := 0, locals := 0 } : Room).cells ({ frames := 0, cells := 0, slots := 0, locals := 0 } : Room).slots) (s₁.setTop (entryFrame m #[(.int p1), (.int p2), .null] 3))
  rw [ef_rm_chk2 m p1 p2]
  show WP p e below _ (s₁.setTop (mkF m 0 #[.val (.int p1), .val (.int p2), .val .null] []))
  refine own_go (fun t_ k => XS.iloadN X0.here hx rfl (hb hby d7_0) rfl k) ?_
  show WP p e below _ (s₁.setTop (mkF m 1 #[.val (.int p1), .val (.int p2), .val .null] [(.int p1)]))
  have hc1_1 : ¬ (p1 < (0 : Int32)) := c0
  refine own_go (fun t_ k => XS.ifNo X0.here hx rfl (hb hby d7_1) rfl ((if0 _ _).trans (flt hc1_1).1) k) ?_
  show WP p e below _ (s₁.setTop (mkF m 4 #[.val (.int p1), .val (.int p2), .val .null] []))
  refine own_go (fun t_ k => XS.iloadN X0.here hx rfl (hb hby d7_4) rfl k) ?_
  show WP p e below _ (s₁.setTop (mkF m 5 #[.val (.int p1), .val (.int p2), .val .null] [(.int p1)]))
  refine own_go (fun t_ k => XS.iloadN X0.here hx rfl (hb hby d7_5) rfl k) ?_
  show WP p e below _ (s₁.setTop (mkF m 6 #[.val (.int p1), .val (.int p2), .val .null] [(.int p2), (.int p1)]))
  have hc6_2 : (p1 < p2) := c1
  refine own_go (fun t_ k => XS.icmpYes X0.here hx rfl (pc0 := 6) (pc' := 16) rfl (hb hby d7_6) rfl (tlt hc6_2).1 (by decide) (by decide) k) ?_
  show WP p e below _ (s₁.setTop (mkF m 16 #[.val (.int p1), .val (.int p2), .val .null] []))
  refine own_go (fun t_ k => XS.iloadN X0.here hx rfl (hb hby d7_16) rfl k) ?_
  show WP p e below _ (s₁.setTop (mkF m 17 #[.val (.int p1), .val (.int p2), .val .null] [(.int p1)]))
  exact own_retI X0 hx Bd.notSynchronized Bd.returns (hb hby d7_17) (show PQ h0 n0 (.int p1) _ _ _ from ⟨rfl, N0, e0⟩) (by decide) (by decide)
theorem pd_1 : parseMethodDescriptor "(IILjava/util/function/BiFunction;)I" = some ⟨[.int, .int, (.object "java/util/function/BiFunction")], some .int⟩ := by decide +kernel
theorem d6_0 : decode jdk_31_method_17_code 0 = .ok (.iload_n 0, 1) := by decide +kernel
theorem d6_1 : decode jdk_31_method_17_code 1 = .ok (.iload_n 1, 1) := by decide +kernel
theorem d6_2 : decode jdk_31_method_17_code 2 = .ok (.aconst_null, 1) := by decide +kernel
theorem d6_3 : decode jdk_31_method_17_code 3 = .ok (.invokestatic 105, 3) := by decide +kernel
theorem d6_6 : decode jdk_31_method_17_code 6 = .ok (.ireturn, 1) := by decide +kernel
theorem pn_2 : plainName "java/util/Objects" = true := by first | (simp [plainName, overriddenIn]; done) | decide +kernel
theorem ef_rm_chk (m : MethodId) (x0 : Int32) (x1 : Int32) : entryFrame m #[(.int x0), (.int x1)] 2 = mkF m 0 #[.val (.int x0), .val (.int x1)] [] := by first | (simp [entryFrame, mkF, argsToLocals, Value.category]; done) | rfl
set_option maxRecDepth 65536 in
set_option maxHeartbeats 40000000 in
theorem rm_chk (l : Launch) (Z : State) (a0 : Array Value) (hw : ∀ d ∈ tables_1, d.before a0 Z = true) (ws : List Jvm.Cond) (p1 : Int32) (p2 : Int32) (h0 : Heap) (n0 : Nat) (c0 : ¬ (p1 < (0 : Int32))) (c1 : p1 < p2) :
    MetFree l (⟨"java/util/Objects", "checkIndex", "(II)I"⟩ : MethodName) (head1 (Jvm.Cond.code (⟨"java/util/Objects", "checkIndex", "(II)I"⟩ : MethodName) jdk_31_method_17_code 2 (some .int) :: ws) ({ frames := 1, cells := 0, slots := 0, locals := 14 } : Room)) (fun a U => a = #[(.int p1), (.int p2)] ∧ Z.Warmed39 U.vm ∧ U.heap = h0) (fun _ _ _ _ _ => True) (fun _ U o U' => ∃ v L, o = .returned v ∧ (PQ h0 n0 (.int p1)) v U'.heap L ∧ FrameEnd U o U' L ({ frames := 1, cells := 0, slots := 0, locals := 14 } : Room).cells ({ frames := 1, cells := 0, slots := 0, locals := 14 } : Room).slots) := by
  refine MetFree.of_bodySF (plainFor_of_name pn_2) hisR ?_
  intro p e s m args below meth c s₁ Bd hml0 hP hK
  obtain ⟨rfl, hZ, hh⟩ := hP
  have hx := Bd.exec
  have hby := Bd.bytes
  have hml : c.maxLocals = 2 := hml0
  have hown : s.vm.findClass "java/util/Objects" = some m.cls := findClass_of_methodNamed Bd.named
  have hnm := (name_of_methodNamed Bd.named Bd.method).1
  have X0 : Stand p l e ({ frames := 1, cells := 0, slots := 0, locals := 14 } : Room) s m #[(.int p1), (.int p2)] below meth c s₁ [] 0 0 := Stand.of_body Bd
  have e0 : s₁.heap = h0 := by rw [← hh, Bd.state]; rfl
  have N0 := Fr.nil n0
  show WP p e below (GG (PQ h0 n0 (.int p1)) s ({ frames := 1, cells := 0, slots := 0, locals := 14 } : Room).cells ({ frames := 1, cells := 0, slots := 0, locals := 14 } : Room).slots) (s₁.setTop (entryFrame m #[(.int p1), (.int p2)] 2))
  rw [ef_rm_chk m p1 p2]
  show WP p e below _ (s₁.setTop (mkF m 0 #[.val (.int p1), .val (.int p2)] []))
  refine own_go (fun t_ k => XS.iloadN X0.here hx rfl (hb hby d6_0) rfl k) ?_
  show WP p e below _ (s₁.setTop (mkF m 1 #[.val (.int p1), .val (.int p2)] [(.int p1)]))
  refine own_go (fun t_ k => XS.iloadN X0.here hx rfl (hb hby d6_1) rfl k) ?_
  show WP p e below _ (s₁.setTop (mkF m 2 #[.val (.int p1), .val (.int p2)] [(.int p2), (.int p1)]))
  refine own_go (fun t_ k => XS.aconstNull X0.here hx rfl (hb hby d6_2) k) ?_
  show WP p e below _ (s₁.setTop (mkF m 3 #[.val (.int p1), .val (.int p2)] [.null, (.int p2), (.int p1)]))
  obtain ⟨_, _, ⟨T1, L1, k1, n1⟩, -, X1, ⟨Lc1, hQ1, l1, y1, z1⟩, st1⟩ := Jvm.LawKit.callS X0 hx (y := (⟨"jdk/internal/util/Preconditions", "checkIndex", "(IILjava/util/function/BiFunction;)I"⟩ : MethodName)) hown (mvT hZ (hw _ (List.mem_of_getElem? (i := 32) rfl))) (mvT hZ (hw _ (List.mem_of_getElem? (i := 33) rfl))) (mvT hZ (hw _ (List.mem_of_getElem? (i := 34) rfl))) (mvT hZ (hw _ (List.mem_of_getElem? (i := 35) rfl))) (by decide) (backOf (W := 0) (rm_chk2 l Z a0 hw [] p1 p2 h0 n0 c0 c1) hZ (hw _ (List.mem_of_getElem? (i := 35) rfl)) (hw _ (List.mem_of_getElem? (i := 34) rfl)) (by decide) (by decide)) (g := (mkF m 3 #[.val (.int p1), .val (.int p2)] [.null, (.int p2), (.int p1)])) rfl (by rw [hml]; rfl) (argsL := [(.int p1), (.int p2), .null]) (rest := []) (lenOf pd_1 rfl) rfl (by show 2 * 0 + _ ≤ _; exact Nat.le_of_eq rfl) (hb hby d6_3) (fun _ _ => ⟨rfl, e0, (by decide : 0 + 0 ≤ _), (by decide : 0 + 0 ≤ _)⟩)
  dsimp only [Pt.U, Pt.locs, Pt.cells, Pt.slots] at X1 l1 y1 z1 st1 hQ1
  subst l1 y1 z1
  obtain ⟨rfl, N1q, e1⟩ := hQ1
  have N1 := Fr.app N0 N1q
  replace X1 : Stand p l e ({ frames := 1, cells := 0, slots := 0, locals := 14 } : Room) s m _ below meth c T1 _ 0 0 := X1
  refine own_go st1 ?_
  show WP p e below _ (T1.setTop (mkF m 6 #[.val (.int p1), .val (.int p2)] [(.int p1)]))
  exact own_retI X1 hx Bd.notSynchronized Bd.returns (hb hby d6_6) (show PQ h0 n0 (.int p1) _ _ _ from ⟨rfl, N1, e1⟩) (by decide) (by decide)
theorem own_at (xs : List Int64) (hl : xs.length < 1000) (i : Int32) (c0 : ¬ (i < (0 : Int32))) (c1 : i < Int32.ofNat xs.length) : (¬ i < 0 ∧ i < (1024 : Int32)) ∧ (xs.map Value.long).getD i.toNatClampNeg (.long (0 : Int64)) = .long (xs.getD i.toNatClampNeg 0) := by
  have e := (own_len _ hl).1
  have o : (1024 : Int32).toInt = 1024 := rfl
  refine ⟨⟨c0, ?_⟩, ?_⟩
  · rw [Int32.lt_iff_toInt_lt] at c1 ⊢; omega
  · rw [List.getD_eq_getElem?_getD, List.getD_eq_getElem?_getD, List.getElem?_map]
    cases xs[i.toNatClampNeg]? <;> rfl
theorem pd_2 : parseMethodDescriptor "(II)I" = some ⟨[.int, .int], some .int⟩ := by decide +kernel
theorem d5_0 : decode prog_23_method_4_code 0 = .ok (.iload_n 1, 1) := by decide +kernel
theorem d5_1 : decode prog_23_method_4_code 1 = .ok (.aload_n 0, 1) := by decide +kernel
theorem d5_2 : decode prog_23_method_4_code 2 = .ok (.getfield 18, 3) := by decide +kernel
theorem d5_5 : decode prog_23_method_4_code 5 = .ok (.invokestatic 51, 3) := by decide +kernel
theorem d5_8 : decode prog_23_method_4_code 8 = .ok (.pop, 1) := by decide +kernel
theorem d5_9 : decode prog_23_method_4_code 9 = .ok (.aload_n 0, 1) := by decide +kernel
theorem d5_10 : decode prog_23_method_4_code 10 = .ok (.getfield 14, 3) := by decide +kernel
theorem d5_13 : decode prog_23_method_4_code 13 = .ok (.iload_n 1, 1) := by decide +kernel
theorem d5_14 : decode prog_23_method_4_code 14 = .ok (.laload, 1) := by decide +kernel
theorem d5_15 : decode prog_23_method_4_code 15 = .ok (.lreturn, 1) := by decide +kernel
theorem ef_rm_get (m : MethodId) (x0 : Addr) (x1 : Int32) : entryFrame m #[(.ref x0), (.int x1)] 2 = mkF m 0 #[.val (.ref x0), .val (.int x1)] [] := by first | (simp [entryFrame, mkF, argsToLocals, Value.category]; done) | rfl
set_option maxRecDepth 65536 in
set_option maxHeartbeats 40000000 in
theorem rm_get (l : Launch) (Z : State) (a0 : Array Value) (hw : ∀ d ∈ tables_1, d.before a0 Z = true) (ws : List Jvm.Cond) (a1 : Addr) (p2 : Int32) (t : Addr) (k : ClassId) (xs : List Int64) (h0 : Heap) (n0 : Nat) (G : LG Z h0 a1 t k xs) (hl : xs.length < 1000) (c0 : ¬ (p2 < (0 : Int32))) (c1 : p2 < Int32.ofNat xs.length) :
    MetFree l (⟨"com/example/vestry/vestry/Longs", "get", "(I)J"⟩ : MethodName) (head1 (Jvm.Cond.code (⟨"com/example/vestry/vestry/Longs", "get", "(I)J"⟩ : MethodName) prog_23_method_4_code 2 (some .long) :: ws) ({ frames := 2, cells := 0, slots := 0, locals := 27 } : Room)) (fun a U => a = #[(.ref a1), (.int p2)] ∧ Z.Warmed39 U.vm ∧ U.heap = h0) (fun _ _ _ _ _ => True) (fun _ U o U' => ∃ v L, o = .returned v ∧ (PQ h0 n0 (.long (xs.getD p2.toNatClampNeg 0))) v U'.heap L ∧ FrameEnd U o U' L ({ frames := 2, cells := 0, slots := 0, locals := 27 } : Room).cells ({ frames := 2, cells := 0, slots := 0, locals := 27 } : Room).slots) := by
  refine MetFree.of_bodySF (plainFor_of_name pn_0) hisR ?_
  intro p e s m args below meth c s₁ Bd hml0 hP hK
  obtain ⟨rfl, hZ, hh⟩ := hP
  have hx := Bd.exec
  have hby := Bd.bytes
  have hml : c.maxLocals = 2 := hml0
  have hown : s.vm.findClass "com/example/vestry/vestry/Longs" = some m.cls := findClass_of_methodNamed Bd.named
  have hnm := (name_of_methodNamed Bd.named Bd.method).1
  have X0 : Stand p l e ({ frames := 2, cells := 0, slots := 0, locals := 27 } : Room) s m #[(.ref a1), (.int p2)] below meth c s₁ [] 0 0 := Stand.of_body Bd
  have e0 : s₁.heap = h0 := by rw [← hh, Bd.state]; rfl
  have N0 := Fr.nil n0
  show WP p e below (GG (PQ h0 n0 (.long (xs.getD p2.toNatClampNeg 0))) s ({ frames := 2, cells := 0, slots := 0, locals := 27 } : Room).cells ({ frames := 2, cells := 0, slots := 0, locals := 27 } : Room).slots) (s₁.setTop (entryFrame m #[(.ref a1), (.int p2)] 2))
  rw [ef_rm_get m a1 p2]
  obtain ⟨E_a, F_v, F_s, V_t, ne_t⟩ := G
  show WP p e below _ (s₁.setTop (mkF m 0 #[.val (.ref a1), .val (.int p2)] []))
  refine own_go (fun t_ k => XS.iloadN X0.here hx rfl (hb hby d5_0) rfl k) ?_
  show WP p e below _ (s₁.setTop (mkF m 1 #[.val (.ref a1), .val (.int p2)] [(.int p2)]))
  refine own_go (fun t_ k => XS.aloadN X0.here hx rfl (hb hby d5_1) rfl rfl k) ?_
  show WP p e below _ (s₁.setTop (mkF m 2 #[.val (.ref a1), .val (.int p2)] [(.ref a1), (.int p2)]))
  obtain ⟨T1, X1, e1, st1⟩ := getF X0 hx hZ hown (host := "") (Or.inl (hw _ (List.mem_of_getElem? (i := 15) rfl))) Via.refl e0 F_s (g := (mkF m 2 #[.val (.ref a1), .val (.int p2)] [(.ref a1), (.int p2)])) rfl rfl (hb hby d5_2)
  refine own_go st1 ?_
  show WP p e below _ (T1.setTop (mkF m 5 #[.val (.ref a1), .val (.int p2)] [(.int (Int32.ofNat xs.length)), (.int p2)]))
  obtain ⟨_, _, ⟨T2, L2, k2, n2⟩, -, X2, ⟨Lc2, hQ2, l2, y2, z2⟩, st2⟩ := Jvm.LawKit.callS X1 hx (y := (⟨"java/util/Objects", "checkIndex", "(II)I"⟩ : MethodName)) hown (mvT hZ (hw _ (List.mem_of_getElem? (i := 28) rfl))) (mvT hZ (hw _ (List.mem_of_getElem? (i := 29) rfl))) (mvT hZ (hw _ (List.mem_of_getElem? (i := 30) rfl))) (mvT hZ (hw _ (List.mem_of_getElem? (i := 31) rfl))) (by decide) (backOf (W := 0) (rm_chk l Z a0 hw [] p2 (Int32.ofNat xs.length) h0 n0 c0 c1) hZ (hw _ (List.mem_of_getElem? (i := 31) rfl)) (hw _ (List.mem_of_getElem? (i := 30) rfl)) (by decide) (by decide)) (g := (mkF m 5 #[.val (.ref a1), .val (.int p2)] [(.int (Int32.ofNat xs.length)), (.int p2)])) rfl (by rw [hml]; rfl) (argsL := [(.int p2), (.int (Int32.ofNat xs.length))]) (rest := []) (lenOf pd_2 rfl) rfl (by show 2 * 0 + _ ≤ _; exact Nat.le_of_eq rfl) (hb hby d5_5) (fun _ _ => ⟨rfl, e1, (by decide : 0 + 0 ≤ _), (by decide : 0 + 0 ≤ _)⟩)
  dsimp only [Pt.U, Pt.locs, Pt.cells, Pt.slots] at X2 l2 y2 z2 st2 hQ2
  subst l2 y2 z2
  obtain ⟨rfl, N2q, e2⟩ := hQ2
  have N2 := Fr.app N0 N2q
  replace X2 : Stand p l e ({ frames := 2, cells := 0, slots := 0, locals := 27 } : Room) s m _ below meth c T2 _ 0 0 := X2
  refine own_go st2 ?_
  show WP p e below _ (T2.setTop (mkF m 8 #[.val (.ref a1), .val (.int p2)] [(.int p2)]))
  refine own_go (fun t_ k => XS.pop X2.here hx rfl (hb hby d5_8) rfl rfl k) ?_
  show WP p e below _ (T2.setTop (mkF m 9 #[.val (.ref a1), .val (.int p2)] []))
  refine own_go (fun t_ k => XS.aloadN X2.here hx rfl (hb hby d5_9) rfl rfl k) ?_
  show WP p e below _ (T2.setTop (mkF m 10 #[.val (.ref a1), .val (.int p2)] [(.ref a1)]))
  obtain ⟨T3, X3, e3, st3⟩ := getF X2 hx hZ hown (host := "") (Or.inl (hw _ (List.mem_of_getElem? (i := 13) rfl))) Via.refl e2 F_v (g := (mkF m 10 #[.val (.ref a1), .val (.int p2)] [(.ref a1)])) rfl rfl (hb hby d5_10)
  refine own_go st3 ?_
  show WP p e below _ (T3.setTop (mkF m 13 #[.val (.ref a1), .val (.int p2)] [(.ref t)]))
  refine own_go (fun t_ k => XS.iloadN X3.here hx rfl (hb hby d5_13) rfl k) ?_
  show WP p e below _ (T3.setTop (mkF m 14 #[.val (.ref a1), .val (.int p2)] [(.int p2), (.ref t)]))
  obtain ⟨cl4, Ar4, -, S4, M4, H4, -⟩ := id (V_t)
  have hin4 : ¬ (p2 < 0 ∨ cl4.slots.size ≤ (p2).toNatClampNeg) := inb_of S4 ((own_at xs hl p2 c0 c1).1)
  refine own_go (fun t_ k => X3.laload hx (j := p2) (v := (.long (xs.getD p2.toNatClampNeg 0))) (by rw [e3]; exact Ar4.1) (State.isArrayOf_alike hZ.alike Ar4.2.1) Ar4.2.2 hin4 (H4.at hin4 (own_at xs hl p2 c0 c1).2) (g := (mkF m 14 #[.val (.ref a1), .val (.int p2)] [(.int p2), (.ref t)])) rfl rfl (hb hby d5_14) _ k) ?_
  show WP p e below _ (T3.setTop (mkF m 15 #[.val (.ref a1), .val (.int p2)] [(.long (xs.getD p2.toNatClampNeg 0))]))
  exact own_retJ X3 hx Bd.notSynchronized Bd.returns (hb hby d5_15) (show PQ h0 n0 (.long (xs.getD p2.toNatClampNeg 0)) _ _ _ from ⟨rfl, N2, e3⟩) (by decide) (by decide)
theorem d8_0 : decode prog_23_method_5_code 0 = .ok (.aload_n 0, 1) := by decide +kernel
theorem d8_1 : decode prog_23_method_5_code 1 = .ok (.getfield 18, 3) := by decide +kernel
theorem d8_4 : decode prog_23_method_5_code 4 = .ok (.ireturn, 1) := by decide +kernel
theorem ef_rm_size (m : MethodId) (x0 : Addr) : entryFrame m #[(.ref x0)] 1 = mkF m 0 #[.val (.ref x0)] [] := by first | (simp [entryFrame, mkF, argsToLocals, Value.category]; done) | rfl
set_option maxRecDepth 65536 in
set_option maxHeartbeats 40000000 in
theorem rm_size (l : Launch) (Z : State) (a0 : Array Value) (hw : ∀ d ∈ tables_1, d.before a0 Z = true) (ws : List Jvm.Cond) (a1 : Addr) (t : Addr) (k : ClassId) (xs : List Int64) (h0 : Heap) (n0 : Nat) (G : LG Z h0 a1 t k xs) :
    MetFree l (⟨"com/example/vestry/vestry/Longs", "size", "()I"⟩ : MethodName) (head1 (Jvm.Cond.code (⟨"com/example/vestry/vestry/Longs", "size", "()I"⟩ : MethodName) prog_23_method_5_code 1 (some .int) :: ws) ({ frames := 0, cells := 0, slots := 0, locals := 0 } : Room)) (fun a U => a = #[(.ref a1)] ∧ Z.Warmed39 U.vm ∧ U.heap = h0) (fun _ _ _ _ _ => True) (fun _ U o U' => ∃ v L, o = .returned v ∧ (PQ h0 n0 (.int (Int32.ofNat xs.length))) v U'.heap L ∧ FrameEnd U o U' L ({ frames := 0, cells := 0, slots := 0, locals := 0 } : Room).cells ({ frames := 0, cells := 0, slots := 0, locals := 0 } : Room).slots) := by
  refine MetFree.of_bodySF (plainFor_of_name pn_0) hisR ?_
  intro p e s m args below meth c s₁ Bd hml0 hP hK
  obtain ⟨rfl, hZ, hh⟩ := hP
  have hx := Bd.exec
  have hby := Bd.bytes
  have hml : c.maxLocals = 1 := hml0
  have hown : s.vm.findClass "com/example/vestry/vestry/Longs" = some m.cls := findClass_of_methodNamed Bd.named
  have hnm := (name_of_methodNamed Bd.named Bd.method).1
  have X0 : Stand p l e ({ frames := 0, cells := 0, slots := 0, locals := 0 } : Room) s m #[(.ref a1)] below meth c s₁ [] 0 0 := Stand.of_body Bd
  have e0 : s₁.heap = h0 := by rw [← hh, Bd.state]; rfl
  have N0 := Fr.nil n0
  show WP p e below (GG (PQ h0 n0 (.int (Int32.ofNat xs.length))) s ({ frames := 0, cells := 0, slots := 0, locals := 0 } : Room).cells ({ frames := 0, cells := 0, slots := 0, locals := 0 } : Room).slots) (s₁.setTop (entryFrame m #[(.ref a1)] 1))
  rw [ef_rm_size m a1]
  obtain ⟨E_a, F_v, F_s, V_t, ne_t⟩ := G
  show WP p e below _ (s₁.setTop (mkF m 0 #[.val (.ref a1)] []))
  refine own_go (fun t_ k => XS.aloadN X0.here hx rfl (hb hby d8_0) rfl rfl k) ?_
  show WP p e below _ (s₁.setTop (mkF m 1 #[.val (.ref a1)] [(.ref a1)]))
  obtain ⟨T1, X1, e1, st1⟩ := getF X0 hx hZ hown (host := "") (Or.inl (hw _ (List.mem_of_getElem? (i := 15) rfl))) Via.refl e0 F_s (g := (mkF m 1 #[.val (.ref a1)] [(.ref a1)])) rfl rfl (hb hby d8_1)
  refine own_go st1 ?_
  show WP p e below _ (T1.setTop (mkF m 4 #[.val (.ref a1)] [(.int (Int32.ofNat xs.length))]))
  exact own_retI X1 hx Bd.notSynchronized Bd.returns (hb hby d8_4) (show PQ h0 n0 (.int (Int32.ofNat xs.length)) _ _ _ from ⟨rfl, N0, e1⟩) (by decide) (by decide)
def f9 (p1 : Int32) (q2 : Int64) (q3 : Int64) (q4 : Int64) : Int64 := (if p1 = (0 : Int32) then q2 else (if p1 = (1 : Int32) then q3 else q4))
theorem d9_0 : decode method_2_code 0 = .ok (.iload_n 0, 1) := by decide +kernel
theorem d9_1 : decode method_2_code 1 = .ok (.ifCond .ne 5, 3) := by decide +kernel
theorem d9_4 : decode method_2_code 4 = .ok (.lload_n 1, 1) := by decide +kernel
theorem d9_5 : decode method_2_code 5 = .ok (.lreturn, 1) := by decide +kernel
theorem d9_6 : decode method_2_code 6 = .ok (.iload_n 0, 1) := by decide +kernel
theorem d9_7 : decode method_2_code 7 = .ok (.iconst 1, 1) := by decide +kernel
theorem d9_8 : decode method_2_code 8 = .ok (.if_icmp .ne 5, 3) := by decide +kernel
theorem d9_11 : decode method_2_code 11 = .ok (.lload_n 3, 1) := by decide +kernel
theorem d9_12 : decode method_2_code 12 = .ok (.lreturn, 1) := by decide +kernel
theorem d9_13 : decode method_2_code 13 = .ok (.lload 5, 2) := by decide +kernel
theorem d9_15 : decode method_2_code 15 = .ok (.lreturn, 1) := by decide +kernel
theorem pn_3 : plainName "com/example/vestry/vestry/LongsGetPinLaw" = true := by first | (simp [plainName, overriddenIn]; done) | decide +kernel
theorem ef_rm9 (m : MethodId) (x0 : Int32) (x1 : Int64) (x2 : Int64) (x3 : Int64) : entryFrame m #[(.int x0), (.long x1), (.long x2), (.long x3)] 7 = mkF m 0 #[.val (.int x0), .val (.long x1), .second, .val (.long x2), .second, .val (.long x3), .second] [] := by first | (simp [entryFrame, mkF, argsToLocals, Value.category]; done) | rfl
set_option maxRecDepth 65536 in
set_option maxHeartbeats 40000000 in
theorem rm9 (l : Launch) (Z : State) (a0 : Array Value) (hw : ∀ d ∈ tables_1, d.before a0 Z = true) (ws : List Jvm.Cond) (p1 : Int32) (q2 : Int64) (q3 : Int64) (q4 : Int64) (h0 : Heap) (n0 : Nat) :
    MetFree l (⟨"com/example/vestry/vestry/LongsGetPinLaw", "nth", "(IJJJ)J"⟩ : MethodName) (head1 (Jvm.Cond.code (⟨"com/example/vestry/vestry/LongsGetPinLaw", "nth", "(IJJJ)J"⟩ : MethodName) method_2_code 7 (some .long) :: ws) ({ frames := 0, cells := 0, slots := 0, locals := 0 } : Room)) (fun a U => a = #[(.int p1), (.long q2), (.long q3), (.long q4)] ∧ Z.Warmed39 U.vm ∧ U.heap = h0) (fun _ _ _ _ _ => True) (fun _ U o U' => ∃ v L, o = .returned v ∧ (PQ h0 n0 (.long (f9 p1 q2 q3 q4))) v U'.heap L ∧ FrameEnd U o U' L ({ frames := 0, cells := 0, slots := 0, locals := 0 } : Room).cells ({ frames := 0, cells := 0, slots := 0, locals := 0 } : Room).slots) := by
  refine MetFree.of_bodySF (plainFor_of_name pn_3) hisR ?_
  intro p e s m args below meth c s₁ Bd hml0 hP hK
  obtain ⟨rfl, hZ, hh⟩ := hP
  have hx := Bd.exec
  have hby := Bd.bytes
  have hml : c.maxLocals = 7 := hml0
  have hown : s.vm.findClass "com/example/vestry/vestry/LongsGetPinLaw" = some m.cls := findClass_of_methodNamed Bd.named
  have hnm := (name_of_methodNamed Bd.named Bd.method).1
  have X0 : Stand p l e ({ frames := 0, cells := 0, slots := 0, locals := 0 } : Room) s m #[(.int p1), (.long q2), (.long q3), (.long q4)] below meth c s₁ [] 0 0 := Stand.of_body Bd
  have e0 : s₁.heap = h0 := by rw [← hh, Bd.state]; rfl
  have N0 := Fr.nil n0
  show WP p e below (GG (PQ h0 n0 (.long (f9 p1 q2 q3 q4))) s ({ frames := 0, cells := 0, slots := 0, locals := 0 } : Room).cells ({ frames := 0, cells := 0, slots := 0, locals := 0 } : Room).slots) (s₁.setTop (entryFrame m #[(.int p1), (.long q2), (.long q3), (.long q4)] 7))
  rw [ef_rm9 m p1 q2 q3 q4]
  show WP p e below _ (s₁.setTop (mkF m 0 #[.val (.int p1), .val (.long q2), .second, .val (.long q3), .second, .val (.long q4), .second] []))
  refine own_go (fun t_ k => XS.iloadN X0.here hx rfl (hb hby d9_0) rfl k) ?_
  show WP p e below _ (s₁.setTop (mkF m 1 #[.val (.int p1), .val (.long q2), .second, .val (.long q3), .second, .val (.long q4), .second] [(.int p1)]))
  by_cases hc1_1 : p1 = (0 : Int32)
  · refine own_go (fun t_ k => XS.ifNo X0.here hx rfl (hb hby d9_1) rfl ((if0 _ _).trans (teq hc1_1).2) k) ?_
    show WP p e below _ (s₁.setTop (mkF m 4 #[.val (.int p1), .val (.long q2), .second, .val (.long q3), .second, .val (.long q4), .second] []))
    refine own_go (fun t_ k => XS.lloadN X0.here hx rfl (hb hby d9_4) rfl k) ?_
    show WP p e below _ (s₁.setTop (mkF m 5 #[.val (.int p1), .val (.long q2), .second, .val (.long q3), .second, .val (.long q4), .second] [(.long q2)]))
    exact own_retJ X0 hx Bd.notSynchronized Bd.returns (hb hby d9_5) (show PQ h0 n0 (.long (f9 p1 q2 q3 q4)) _ _ _ from ⟨by rw [f9, if_pos hc1_1], N0, e0⟩) (by decide) (by decide)
  · refine own_go (fun t_ k => XS.ifYes X0.here hx rfl (pc0 := 1) (pc' := 6) rfl (hb hby d9_1) rfl ((if0 _ _).trans (feq hc1_1).2) (by decide) (by decide) k) ?_
    show WP p e below _ (s₁.setTop (mkF m 6 #[.val (.int p1), .val (.long q2), .second, .val (.long q3), .second, .val (.long q4), .second] []))
    refine own_go (fun t_ k => XS.iloadN X0.here hx rfl (hb hby d9_6) rfl k) ?_
    show WP p e below _ (s₁.setTop (mkF m 7 #[.val (.int p1), .val (.long q2), .second, .val (.long q3), .second, .val (.long q4), .second] [(.int p1)]))
    refine own_go (fun t_ k => XS.iconst X0.here hx rfl (hb hby d9_7) k) ?_
    show WP p e below _ (s₁.setTop (mkF m 8 #[.val (.int p1), .val (.long q2), .second, .val (.long q3), .second, .val (.long q4), .second] [(.int (1 : Int32)), (.int p1)]))
    by_cases hc8_2 : p1 = (1 : Int32)
    · refine own_go (fun t_ k => XS.icmpNo X0.here hx rfl (hb hby d9_8) rfl (teq hc8_2).2 k) ?_
      show WP p e below _ (s₁.setTop (mkF m 11 #[.val (.int p1), .val (.long q2), .second, .val (.long q3), .second, .val (.long q4), .second] []))
      refine own_go (fun t_ k => XS.lloadN X0.here hx rfl (hb hby d9_11) rfl k) ?_
      show WP p e below _ (s₁.setTop (mkF m 12 #[.val (.int p1), .val (.long q2), .second, .val (.long q3), .second, .val (.long q4), .second] [(.long q3)]))
      exact own_retJ X0 hx Bd.notSynchronized Bd.returns (hb hby d9_12) (show PQ h0 n0 (.long (f9 p1 q2 q3 q4)) _ _ _ from ⟨by rw [f9, if_neg hc1_1, if_pos hc8_2], N0, e0⟩) (by decide) (by decide)
    · refine own_go (fun t_ k => XS.icmpYes X0.here hx rfl (pc0 := 8) (pc' := 13) rfl (hb hby d9_8) rfl (feq hc8_2).2 (by decide) (by decide) k) ?_
      show WP p e below _ (s₁.setTop (mkF m 13 #[.val (.int p1), .val (.long q2), .second, .val (.long q3), .second, .val (.long q4), .second] []))
      refine own_go (fun t_ k => XS.lload X0.here hx rfl (hb hby d9_13) rfl k) ?_
      show WP p e below _ (s₁.setTop (mkF m 15 #[.val (.int p1), .val (.long q2), .second, .val (.long q3), .second, .val (.long q4), .second] [(.long q4)]))
      exact own_retJ X0 hx Bd.notSynchronized Bd.returns (hb hby d9_15) (show PQ h0 n0 (.long (f9 p1 q2 q3 q4)) _ _ _ from ⟨by rw [f9, if_neg hc1_1, if_neg hc8_2], N0, e0⟩) (by decide) (by decide)
theorem own_and3 {p v : Int32} (h : (p &&& (3 : Int32)) = v) : v = 0 ∨ v = 1 ∨ v = 2 ∨ v = 3 := by
  have a1 := c_mask p 3 2 (by decide) (by decide)
  rw [h] at a1
  have o0 : (0 : Int32).toInt = 0 := rfl
  have o1 : (1 : Int32).toInt = 1 := rfl
  have o2 : (2 : Int32).toInt = 2 := rfl
  have o3 : (3 : Int32).toInt = 3 := rfl
  rw [← Int32.toInt_inj, ← Int32.toInt_inj, ← Int32.toInt_inj, ← Int32.toInt_inj]
  omega
theorem own_rem {p v : Int32} (d : Int32) (n : Nat) (hd : d.toInt = n) (h0 : 0 < n) (h1 : n < 1000) (h : ((p &&& (2147483647 : Int32)) % d) = v) : ¬ (v < (0 : Int32)) ∧ v < Int32.ofNat n ∧ v.toNatClampNeg < n ∧ v.toInt = v.toNatClampNeg := by
  have a1 := c_mask p 2147483647 31 (by decide) (by decide)
  have a2 := (c_irem (p &&& 2147483647) d n hd).1
  rw [h] at a2
  have e := (own_len n h1).1
  have o0 : (0 : Int32).toInt = 0 := rfl
  have b : 0 ≤ v.toInt ∧ v.toInt < n := by
    have m1 := Int.emod_nonneg (p &&& 2147483647).toInt (show (n : Int) ≠ 0 by omega)
    have m2 := Int.emod_lt_of_pos (p &&& 2147483647).toInt (show (0 : Int) < n by omega)
    omega
  simp only [Int32.lt_iff_toInt_lt, Int32.toNatClampNeg]
  omega
theorem pd_3 : parseMethodDescriptor "()V" = some ⟨[], none⟩ := by decide +kernel
theorem pd_4 : parseMethodDescriptor "()I" = some ⟨[], some .int⟩ := by decide +kernel
theorem own_law_1 {q1 : Int64} {q2 : Int64} {q3 : Int64} {p4 : Int32} {p5 : Int32} {vi10 : Int32} {z12_S0 : Int32}
    (he1 : (p4 &&& (3 : Int32)) = (0 : Int32))
    (he10 : (Int32.ofNat (List.length ([] : List Int64))) = vi10)
    (hz12_S0 : z12_S0 = (if vi10 = (0 : Int32) then (1 : Int32) else (0 : Int32)))  : z12_S0 = 1 := by
  simp_all
theorem pd_5 : parseMethodDescriptor "(J)V" = some ⟨[.long], none⟩ := by decide +kernel
theorem pd_6 : parseMethodDescriptor "(I)J" = some ⟨[.int], some .long⟩ := by decide +kernel
theorem pd_7 : parseMethodDescriptor "(IJJJ)J" = some ⟨[.int, .long, .long, .long], some .long⟩ := by decide +kernel
theorem own_law_2 {q1 : Int64} {q2 : Int64} {q3 : Int64} {p4 : Int32} {p5 : Int32} {vi21 : Int32} {vj23 : Int64} {vj25 : Int64} {vi27 : Int32} {z29_S0 : Int32}
    (he1 : (p4 &&& (3 : Int32)) = (1 : Int32))
    (he21 : ((p5 &&& (2147483647 : Int32)) % (1 : Int32)) = vi21)
    (he23 : (List.getD [q1] vi21.toNatClampNeg 0) = vj23)
    (he25 : (List.getD [q1] (0 : Int32).toNatClampNeg 0) = vj25)
    (he27 : (Int32.ofNat (List.length [q1])) = vi27)
    (hz29_S0 : z29_S0 = (if vi27 = (1 : Int32) then (if vj23 = (f9 vi21 q1 q2 q3) then (if vj25 = (f9 (0 : Int32) q1 q2 q3) then (1 : Int32) else (0 : Int32)) else (0 : Int32)) else (0 : Int32)))  : z29_S0 = 1 := by
  obtain ⟨-, -, b1, b2⟩ := own_rem 1 1 rfl (by decide) (by decide) he21
  have e : vi21 = 0 := by
    have o0 : (0 : Int32).toInt = 0 := rfl
    simp only [← Int32.toInt_inj]
    omega
  clear b1 b2 he21
  rcases e with rfl
  all_goals (simp [f9] at *; simp_all)
theorem own_law_3 {q1 : Int64} {q2 : Int64} {q3 : Int64} {p4 : Int32} {p5 : Int32} {vi43 : Int32} {vj45 : Int64} {vj47 : Int64} {vi49 : Int32} {z51_S0 : Int32}
    (he1 : (p4 &&& (3 : Int32)) = (2 : Int32))
    (he43 : ((p5 &&& (2147483647 : Int32)) % (2 : Int32)) = vi43)
    (he45 : (List.getD [q1, q2] vi43.toNatClampNeg 0) = vj45)
    (he47 : (List.getD [q1, q2] (1 : Int32).toNatClampNeg 0) = vj47)
    (he49 : (Int32.ofNat (List.length [q1, q2])) = vi49)
    (hz51_S0 : z51_S0 = (if vi49 = (2 : Int32) then (if vj45 = (f9 vi43 q1 q2 q3) then (if vj47 = (f9 (1 : Int32) q1 q2 q3) then (1 : Int32) else (0 : Int32)) else (0 : Int32)) else (0 : Int32)))  : z51_S0 = 1 := by
  obtain ⟨-, -, b1, b2⟩ := own_rem 2 2 rfl (by decide) (by decide) he43
  have e : vi43 = 0 ∨ vi43 = 1 := by
    have o0 : (0 : Int32).toInt = 0 := rfl
    have o1 : (1 : Int32).toInt = 1 := rfl
    simp only [← Int32.toInt_inj]
    omega
  clear b1 b2 he43
  rcases e with rfl | rfl
  all_goals (simp [f9] at *; simp_all)
theorem own_law_4 {q1 : Int64} {q2 : Int64} {q3 : Int64} {p4 : Int32} {p5 : Int32} {vi66 : Int32} {vj68 : Int64} {vj70 : Int64} {vi72 : Int32} {z74_S0 : Int32}
    (he1 : (p4 &&& (3 : Int32)) = (3 : Int32))
    (he66 : ((p5 &&& (2147483647 : Int32)) % (3 : Int32)) = vi66)
    (he68 : (List.getD [q1, q2, q3] vi66.toNatClampNeg 0) = vj68)
    (he70 : (List.getD [q1, q2, q3] (2 : Int32).toNatClampNeg 0) = vj70)
    (he72 : (Int32.ofNat (List.length [q1, q2, q3])) = vi72)
    (hz74_S0 : z74_S0 = (if vi72 = (3 : Int32) then (if vj68 = (f9 vi66 q1 q2 q3) then (if vj70 = (f9 (2 : Int32) q1 q2 q3) then (1 : Int32) else (0 : Int32)) else (0 : Int32)) else (0 : Int32)))  : z74_S0 = 1 := by
  obtain ⟨-, -, b1, b2⟩ := own_rem 3 3 rfl (by decide) (by decide) he66
  have e : vi66 = 0 ∨ vi66 = 1 ∨ vi66 = 2 := by
    have o0 : (0 : Int32).toInt = 0 := rfl
    have o1 : (1 : Int32).toInt = 1 := rfl
    have o2 : (2 : Int32).toInt = 2 := rfl
    simp only [← Int32.toInt_inj]
    omega
  clear b1 b2 he66
  rcases e with rfl | rfl | rfl
  all_goals (simp [f9] at *; simp_all)
theorem ef_rm0 (m : MethodId) (x0 : Int64) (x1 : Int64) (x2 : Int64) (x3 : Int32) (x4 : Int32) : entryFrame m #[(.long x0), (.long x1), (.long x2), (.int x3), (.int x4)] maxLocals = mkF m 0 #[.val (.long x0), .second, .val (.long x1), .second, .val (.long x2), .second, .val (.int x3), .val (.int x4), .unset, .unset, .unset, .unset, .unset, .unset, .unset] [] := by first | (simp [entryFrame, mkF, argsToLocals, Value.category, maxLocals]; done) | rfl
set_option maxRecDepth 65536 in
set_option maxHeartbeats 40000000 in
theorem rm0 (l : Launch) (Z : State) (a0 : Array Value) (hw : ∀ d ∈ tables_1, d.before a0 Z = true) (ws : List Jvm.Cond) (q1 : Int64) (q2 : Int64) (q3 : Int64) (p4 : Int32) (p5 : Int32) (h0 : Heap) (n0 : Nat) (Z0 : n0 ≤ h0.size) :
    MetFree l x (head1 (Jvm.Cond.code x code maxLocals ret :: ws) room_1) (fun a U => a = #[(.long q1), (.long q2), (.long q3), (.int p4), (.int p5)] ∧ Z.Warmed39 U.vm ∧ U.heap = h0) (fun _ _ _ _ _ => True) (fun _ U o U' => ∃ v L, o = .returned v ∧ (Q0 n0) v U'.heap L ∧ FrameEnd U o U' L room_1.cells room_1.slots) := by
  refine MetFree.of_bodySF (plainFor_of_name pn_3) hisR ?_
  intro p e s m args below meth c s₁ Bd hml0 hP hK
  obtain ⟨rfl, hZ, hh⟩ := hP
  have hx := Bd.exec
  have hby := Bd.bytes
  have hml : c.maxLocals = 15 := hml0
  have hown : s.vm.findClass "com/example/vestry/vestry/LongsGetPinLaw" = some m.cls := findClass_of_methodNamed Bd.named
  have hnm := (name_of_methodNamed Bd.named Bd.method).1
  have X0 : Stand p l e room_1 s m #[(.long q1), (.long q2), (.long q3), (.int p4), (.int p5)] below meth c s₁ [] 0 0 := Stand.of_body Bd
  have e0 : s₁.heap = h0 := by rw [← hh, Bd.state]; rfl
  have N0 := Fr.nil n0
  show WP p e below (GG (Q0 n0) s room_1.cells room_1.slots) (s₁.setTop (entryFrame m #[(.long q1), (.long q2), (.long q3), (.int p4), (.int p5)] maxLocals))
  rw [ef_rm0 m q1 q2 q3 p4 p5]
  show WP p e below _ (s₁.setTop (mkF m 0 #[.val (.long q1), .second, .val (.long q2), .second, .val (.long q3), .second, .val (.int p4), .val (.int p5), .unset, .unset, .unset, .unset, .unset, .unset, .unset] []))
  refine own_go (fun t_ k => XS.iload X0.here hx rfl (hb hby at_0) rfl k) ?_
  show WP p e below _ (s₁.setTop (mkF m 2 #[.val (.long q1), .second, .val (.long q2), .second, .val (.long q3), .second, .val (.int p4), .val (.int p5), .unset, .unset, .unset, .unset, .unset, .unset, .unset] [(.int p4)]))
  refine own_go (fun t_ k => XS.iconst X0.here hx rfl (hb hby at_2) k) ?_
  show WP p e below _ (s₁.setTop (mkF m 3 #[.val (.long q1), .second, .val (.long q2), .second, .val (.long q3), .second, .val (.int p4), .val (.int p5), .unset, .unset, .unset, .unset, .unset, .unset, .unset] [(.int (3 : Int32)), (.int p4)]))
  refine own_go (fun t_ k => XS.iand X0.here hx rfl (hb hby at_3) rfl k) ?_
  show WP p e below _ (s₁.setTop (mkF m 4 #[.val (.long q1), .second, .val (.long q2), .second, .val (.long q3), .second, .val (.int p4), .val (.int p5), .unset, .unset, .unset, .unset, .unset, .unset, .unset] [(.int (p4 &&& (3 : Int32)))]))
  refine own_go (fun t_ k => XS.istore X0.here hx rfl (hb hby at_4) rfl (l' := #[.val (.long q1), .second, .val (.long q2), .second, .val (.long q3), .second, .val (.int p4), .val (.int p5), .val (.int (p4 &&& (3 : Int32))), .unset, .unset, .unset, .unset, .unset, .unset]) rfl k) ?_
  show WP p e below _ (s₁.setTop (mkF m 6 #[.val (.long q1), .second, .val (.long q2), .second, .val (.long q3), .second, .val (.int p4), .val (.int p5), .val (.int (p4 &&& (3 : Int32))), .unset, .unset, .unset, .unset, .unset, .unset] []))
  generalize he1 : (p4 &&& (3 : Int32)) = vi1
  rcases own_and3 he1 with hs2 | hs2 | hs2 | hs2
  · subst hs2
    show WP p e below _ (s₁.setTop (mkF m 6 #[.val (.long q1), .second, .val (.long q2), .second, .val (.long q3), .second, .val (.int p4), .val (.int p5), .val (.int (0 : Int32)), .unset, .unset, .unset, .unset, .unset, .unset] []))
    obtain ⟨T3, h3, X3, e3, E3, A3, D3, -, st3⟩ := newO X0 hx hZ hown (hw _ (List.mem_of_getElem? (i := 0) rfl)) (hw _ (List.mem_of_getElem? (i := 1) rfl)) (hw _ (List.mem_of_getElem? (i := 2) rfl)) e0 (g := (mkF m 6 #[.val (.long q1), .second, .val (.long q2), .second, .val (.long q3), .second, .val (.int p4), .val (.int p5), .val (.int (0 : Int32)), .unset, .unset, .unset, .unset, .unset, .unset] [])) rfl (hb hby at_6) (by decide) (by decide)
    obtain ⟨b3, g3⟩ : ∃ z, z = Array.size h0 := ⟨_, rfl⟩
    rw [← g3] at A3 D3 st3
    refine own_go st3 ?_
    have g_b3 : n0 ≤ b3 := Nat.le_trans (Nat.le_trans Z0 (Keep.refl h0 []).1) (Nat.le_of_eq g3.symm)
    have sz_b3 : h0.size ≤ b3 := Nat.le_trans (Keep.refl h0 []).1 (Nat.le_of_eq g3.symm)
    have K3 : Keep h0 h3 [] := (Keep.refl h0 []).ext E3
    have F3_values : Fld Z h3 b3 "com/example/vestry/vestry/Longs" "values" "[J" .null := D3 (Or.inl (hw _ (List.mem_of_getElem? (i := 14) rfl))) (ty := (.array .long)) (by decide)
    have F3_size : Fld Z h3 b3 "com/example/vestry/vestry/Longs" "size" "I" (.int (0 : Int32)) := D3 (Or.inl (hw _ (List.mem_of_getElem? (i := 16) rfl))) (ty := .int) (by decide)
    show WP p e below _ (T3.setTop (mkF m 9 #[.val (.long q1), .second, .val (.long q2), .second, .val (.long q3), .second, .val (.int p4), .val (.int p5), .val (.int (0 : Int32)), .unset, .unset, .unset, .unset, .unset, .unset] [(.ref b3)]))
    refine own_go (fun t_ k => XS.dup X3.here hx rfl (hb hby at_9) rfl rfl k) ?_
    show WP p e below _ (T3.setTop (mkF m 10 #[.val (.long q1), .second, .val (.long q2), .second, .val (.long q3), .second, .val (.int p4), .val (.int p5), .val (.int (0 : Int32)), .unset, .unset, .unset, .unset, .unset, .unset] [(.ref b3), (.ref b3)]))
    obtain ⟨_, _, ⟨T4, L4, k4, n4⟩, -, X4, ⟨Lc4, hQ4, l4, y4, z4⟩, st4⟩ := X3.specialBack hx (y := (⟨"com/example/vestry/vestry/Longs", "<init>", "()V"⟩ : MethodName)) rfl hown (mvT hZ (hw _ (List.mem_of_getElem? (i := 3) rfl))) (mvT hZ (hw _ (List.mem_of_getElem? (i := 4) rfl))) (mvT hZ (hw _ (List.mem_of_getElem? (i := 5) rfl))) (by decide) (backOf (W := 1) (rm_i0 l Z a0 hw [] b3 h3 n0 (Nat.le_trans Z0 K3.1) A3 g_b3 F3_values F3_size) hZ (hw _ (List.mem_of_getElem? (i := 5) rfl)) (hw _ (List.mem_of_getElem? (i := 2) rfl)) (by decide) (by decide)) (g := (mkF m 10 #[.val (.long q1), .second, .val (.long q2), .second, .val (.long q3), .second, .val (.int p4), .val (.int p5), .val (.int (0 : Int32)), .unset, .unset, .unset, .unset, .unset, .unset] [(.ref b3), (.ref b3)])) rfl (by rw [hml]; rfl) (Steps.refl _) (a := b3) (argsL := []) (rest := [(.ref b3)]) (lenOf pd_3 rfl) rfl (by show 2 * 0 + _ ≤ _; exact Nat.le_of_eq rfl) (hb hby at_10) (fun _ _ => ⟨rfl, e3, (by decide : 1 + 1 ≤ _), (by decide : 2 + 1024 ≤ _)⟩)
    dsimp only [Pt.U, Pt.locs, Pt.cells, Pt.slots] at X4 l4 y4 z4 st4 hQ4
    subst l4 y4 z4
    obtain ⟨rfl, N4q, K4c, t4, kk4, gt4, st4', P4⟩ := hQ4
    have N4 := Fr.app N0 N4q
    replace X4 : Stand p l e room_1 s m _ below meth c T4 _ 2 1026 := X4
    refine own_go (fun t_ k => st4.trans k) ?_
    have K4 : Keep h0 T4.heap [] := K3.trans K4c (allS (Or.inr sz_b3) all0)
    have szt4 : h0.size ≤ t4 := Nat.le_trans K3.1 st4'
    show WP p e below _ (T4.setTop (mkF m 13 #[.val (.long q1), .second, .val (.long q2), .second, .val (.long q3), .second, .val (.int p4), .val (.int p5), .val (.int (0 : Int32)), .unset, .unset, .unset, .unset, .unset, .unset] [(.ref b3)]))
    refine own_go (fun t_ k => XS.astore X4.here hx rfl (hb hby at_13) rfl rfl (l' := #[.val (.long q1), .second, .val (.long q2), .second, .val (.long q3), .second, .val (.int p4), .val (.int p5), .val (.int (0 : Int32)), .val (.ref b3), .unset, .unset, .unset, .unset, .unset]) rfl k) ?_
    show WP p e below _ (T4.setTop (mkF m 15 #[.val (.long q1), .second, .val (.long q2), .second, .val (.long q3), .second, .val (.int p4), .val (.int p5), .val (.int (0 : Int32)), .val (.ref b3), .unset, .unset, .unset, .unset, .unset] []))
    refine own_go (fun t_ k => XS.iload X4.here hx rfl (hb hby at_15) rfl k) ?_
    show WP p e below _ (T4.setTop (mkF m 17 #[.val (.long q1), .second, .val (.long q2), .second, .val (.long q3), .second, .val (.int p4), .val (.int p5), .val (.int (0 : Int32)), .val (.ref b3), .unset, .unset, .unset, .unset, .unset] [(.int (0 : Int32))]))
    have hc17_5 : ¬ ((0 : Int32) < (0 : Int32)) := by decide
    refine own_go (fun t_ k => XS.ifYes X4.here hx rfl (pc0 := 17) (pc' := 26) rfl (hb hby at_17) rfl ((if0 _ _).trans (flt hc17_5).2.2.2) (by decide) (by decide) k) ?_
    show WP p e below _ (T4.setTop (mkF m 26 #[.val (.long q1), .second, .val (.long q2), .second, .val (.long q3), .second, .val (.int p4), .val (.int p5), .val (.int (0 : Int32)), .val (.ref b3), .unset, .unset, .unset, .unset, .unset] []))
    refine own_go (fun t_ k => XS.iload X4.here hx rfl (hb hby at_26) rfl k) ?_
    show WP p e below _ (T4.setTop (mkF m 28 #[.val (.long q1), .second, .val (.long q2), .second, .val (.long q3), .second, .val (.int p4), .val (.int p5), .val (.int (0 : Int32)), .val (.ref b3), .unset, .unset, .unset, .unset, .unset] [(.int (0 : Int32))]))
    refine own_go (fun t_ k => XS.iconst X4.here hx rfl (hb hby at_28) k) ?_
    show WP p e below _ (T4.setTop (mkF m 29 #[.val (.long q1), .second, .val (.long q2), .second, .val (.long q3), .second, .val (.int p4), .val (.int p5), .val (.int (0 : Int32)), .val (.ref b3), .unset, .unset, .unset, .unset, .unset] [(.int (1 : Int32)), (.int (0 : Int32))]))
    have hc29_6 : ¬ ((1 : Int32) < (0 : Int32)) := by decide
    refine own_go (fun t_ k => XS.icmpYes X4.here hx rfl (pc0 := 29) (pc' := 38) rfl (hb hby at_29) rfl (flt hc29_6).2.2.2 (by decide) (by decide) k) ?_
    show WP p e below _ (T4.setTop (mkF m 38 #[.val (.long q1), .second, .val (.long q2), .second, .val (.long q3), .second, .val (.int p4), .val (.int p5), .val (.int (0 : Int32)), .val (.ref b3), .unset, .unset, .unset, .unset, .unset] []))
    refine own_go (fun t_ k => XS.iload X4.here hx rfl (hb hby at_38) rfl k) ?_
    show WP p e below _ (T4.setTop (mkF m 40 #[.val (.long q1), .second, .val (.long q2), .second, .val (.long q3), .second, .val (.int p4), .val (.int p5), .val (.int (0 : Int32)), .val (.ref b3), .unset, .unset, .unset, .unset, .unset] [(.int (0 : Int32))]))
    refine own_go (fun t_ k => XS.iconst X4.here hx rfl (hb hby at_40) k) ?_
    show WP p e below _ (T4.setTop (mkF m 41 #[.val (.long q1), .second, .val (.long q2), .second, .val (.long q3), .second, .val (.int p4), .val (.int p5), .val (.int (0 : Int32)), .val (.ref b3), .unset, .unset, .unset, .unset, .unset] [(.int (2 : Int32)), (.int (0 : Int32))]))
    have hc41_7 : ¬ ((2 : Int32) < (0 : Int32)) := by decide
    refine own_go (fun t_ k => XS.icmpYes X4.here hx rfl (pc0 := 41) (pc' := 51) rfl (hb hby at_41) rfl (flt hc41_7).2.2.2 (by decide) (by decide) k) ?_
    show WP p e below _ (T4.setTop (mkF m 51 #[.val (.long q1), .second, .val (.long q2), .second, .val (.long q3), .second, .val (.int p4), .val (.int p5), .val (.int (0 : Int32)), .val (.ref b3), .unset, .unset, .unset, .unset, .unset] []))
    refine own_go (fun t_ k => XS.iload X4.here hx rfl (hb hby at_51) rfl k) ?_
    show WP p e below _ (T4.setTop (mkF m 53 #[.val (.long q1), .second, .val (.long q2), .second, .val (.long q3), .second, .val (.int p4), .val (.int p5), .val (.int (0 : Int32)), .val (.ref b3), .unset, .unset, .unset, .unset, .unset] [(.int (0 : Int32))]))
    have hc53_8 : ((0 : Int32) = (0 : Int32)) := by decide
    refine own_go (fun t_ k => XS.ifNo X4.here hx rfl (hb hby at_53) rfl ((if0 _ _).trans (teq hc53_8).2) k) ?_
    show WP p e below _ (T4.setTop (mkF m 56 #[.val (.long q1), .second, .val (.long q2), .second, .val (.long q3), .second, .val (.int p4), .val (.int p5), .val (.int (0 : Int32)), .val (.ref b3), .unset, .unset, .unset, .unset, .unset] []))
    refine own_go (fun t_ k => XS.aload X4.here hx rfl (hb hby at_56) rfl rfl k) ?_
    show WP p e below _ (T4.setTop (mkF m 58 #[.val (.long q1), .second, .val (.long q2), .second, .val (.long q3), .second, .val (.int p4), .val (.int p5), .val (.int (0 : Int32)), .val (.ref b3), .unset, .unset, .unset, .unset, .unset] [(.ref b3)]))
    obtain ⟨cq9, kq9, q9a, q9b, q9c⟩ := isOf (T := T4) hZ rfl P4.1
    obtain ⟨_, _, ⟨T9, L9, k9, n9⟩, -, X9, ⟨Lc9, hQ9, l9, y9, z9⟩, st9⟩ := X4.virtualBack hx (y := (⟨"com/example/vestry/vestry/Longs", "size", "()I"⟩ : MethodName)) (z := (⟨"com/example/vestry/vestry/Longs", "size", "()I"⟩ : MethodName)) hown (mvT hZ (hw _ (List.mem_of_getElem? (i := 36) rfl))) (mvT hZ (hw _ (List.mem_of_getElem? (i := 37) rfl))) (notFace_of_selects (args := #[]) (mvT hZ (hw _ (List.mem_of_getElem? (i := 39) rfl)))) (mvT hZ (hw _ (List.mem_of_getElem? (i := 39) rfl))) (mvT hZ (hw _ (List.mem_of_getElem? (i := 38) rfl))) (by decide) (backOf (W := 0) (rm_size l Z a0 hw [] b3 t4 kk4 ([] : List Int64) T4.heap n0 P4) hZ (hw _ (List.mem_of_getElem? (i := 40) rfl)) (hw _ (List.mem_of_getElem? (i := 2) rfl)) (by decide) (by decide)) q9a q9c (g := (mkF m 58 #[.val (.long q1), .second, .val (.long q2), .second, .val (.long q3), .second, .val (.int p4), .val (.int p5), .val (.int (0 : Int32)), .val (.ref b3), .unset, .unset, .unset, .unset, .unset] [(.ref b3)])) rfl (by rw [hml]; rfl) (Steps.refl _) (argsL := []) (rest := []) (lenOf pd_4 rfl) rfl (by show 2 * 0 + _ ≤ _; exact Nat.le_of_eq rfl) (hb hby at_58) (fun _ _ => ⟨rfl, rfl, (by decide : 2 + 0 ≤ _), (by decide : 1026 + 0 ≤ _)⟩)
    dsimp only [Pt.U, Pt.locs, Pt.cells, Pt.slots] at X9 l9 y9 z9 st9 hQ9
    subst l9 y9 z9
    obtain ⟨rfl, N9q, e9⟩ := hQ9
    have N9 := Fr.app N4 N9q
    replace X9 : Stand p l e room_1 s m _ below meth c T9 _ 2 1026 := X9
    refine own_go (fun t_ k => st9.trans k) ?_
    show WP p e below _ (T9.setTop (mkF m 61 #[.val (.long q1), .second, .val (.long q2), .second, .val (.long q3), .second, .val (.int p4), .val (.int p5), .val (.int (0 : Int32)), .val (.ref b3), .unset, .unset, .unset, .unset, .unset] [(.int (Int32.ofNat (List.length ([] : List Int64))))]))
    generalize he10 : (Int32.ofNat (List.length ([] : List Int64))) = vi10
    show WP p e below _ (T9.setTop (mkF m 61 #[.val (.long q1), .second, .val (.long q2), .second, .val (.long q3), .second, .val (.int p4), .val (.int p5), .val (.int (0 : Int32)), .val (.ref b3), .unset, .unset, .unset, .unset, .unset] [(.int vi10)]))
    have J13 : ∀ (T13 : State) (ls13 : List Loc) (X13 : Stand p l e room_1 s m #[(.long q1), (.long q2), (.long q3), (.int p4), (.int p5)] below meth c T13 ls13 2 1026) (N13 : Fr n0 ls13) (e13 : T13.heap = T4.heap) (z12_S0 : Int32) (hz12_S0 : z12_S0 = (if vi10 = (0 : Int32) then (1 : Int32) else (0 : Int32))), WP p e below (GG (Q0 n0) s room_1.cells room_1.slots) (T13.setTop (mkF m 69 #[.val (.long q1), .second, .val (.long q2), .second, .val (.long q3), .second, .val (.int p4), .val (.int p5), .val (.int (0 : Int32)), .val (.ref b3), .unset, .unset, .unset, .unset, .unset] [(.int z12_S0)])) := by
      intro T13 ls13 X13 N13 e13 z12_S0 hz12_S0
      show WP p e below _ (T13.setTop (mkF m 69 #[.val (.long q1), .second, .val (.long q2), .second, .val (.long q3), .second, .val (.int p4), .val (.int p5), .val (.int (0 : Int32)), .val (.ref b3), .unset, .unset, .unset, .unset, .unset] [(.int z12_S0)]))
      exact own_retZ X13 hx Bd.notSynchronized Bd.returns (hb hby at_69) (by rw [hz12_S0]; (repeat' split); all_goals first | exact Or.inl rfl | exact Or.inr rfl) (show Q0 n0 _ _ _ from ⟨congrArg (fun z => some (Value.int z)) (own_law_1 (q1 := q1) (q2 := q2) (q3 := q3) (p4 := p4) (p5 := p5) he1 he10 hz12_S0), N13⟩) (by decide) (by decide)
    by_cases hc61_11 : vi10 = (0 : Int32)
    · refine own_go (fun t_ k => XS.ifNo X9.here hx rfl (hb hby at_61) rfl ((if0 _ _).trans (teq hc61_11).2) k) ?_
      show WP p e below _ (T9.setTop (mkF m 64 #[.val (.long q1), .second, .val (.long q2), .second, .val (.long q3), .second, .val (.int p4), .val (.int p5), .val (.int (0 : Int32)), .val (.ref b3), .unset, .unset, .unset, .unset, .unset] []))
      refine own_go (fun t_ k => XS.iconst X9.here hx rfl (hb hby at_64) k) ?_
      show WP p e below _ (T9.setTop (mkF m 65 #[.val (.long q1), .second, .val (.long q2), .second, .val (.long q3), .second, .val (.int p4), .val (.int p5), .val (.int (0 : Int32)), .val (.ref b3), .unset, .unset, .unset, .unset, .unset] [(.int (1 : Int32))]))
      refine own_go (fun t_ k => XS.goto X9.here hx rfl (pc0 := 65) (pc' := 69) rfl (hb hby at_65) (by decide) (by decide) k) ?_
      show WP p e below _ (T9.setTop (mkF m 69 #[.val (.long q1), .second, .val (.long q2), .second, .val (.long q3), .second, .val (.int p4), .val (.int p5), .val (.int (0 : Int32)), .val (.ref b3), .unset, .unset, .unset, .unset, .unset] [(.int (1 : Int32))]))
      exact J13 T9 _ X9 N9 e9 _ (by rw [if_pos hc61_11])
    · refine own_go (fun t_ k => XS.ifYes X9.here hx rfl (pc0 := 61) (pc' := 68) rfl (hb hby at_61) rfl ((if0 _ _).trans (feq hc61_11).2) (by decide) (by decide) k) ?_
      show WP p e below _ (T9.setTop (mkF m 68 #[.val (.long q1), .second, .val (.long q2), .second, .val (.long q3), .second, .val (.int p4), .val (.int p5), .val (.int (0 : Int32)), .val (.ref b3), .unset, .unset, .unset, .unset, .unset] []))
      refine own_go (fun t_ k => XS.iconst X9.here hx rfl (hb hby at_68) k) ?_
      show WP p e below _ (T9.setTop (mkF m 69 #[.val (.long q1), .second, .val (.long q2), .second, .val (.long q3), .second, .val (.int p4), .val (.int p5), .val (.int (0 : Int32)), .val (.ref b3), .unset, .unset, .unset, .unset, .unset] [(.int (0 : Int32))]))
      exact J13 T9 _ X9 N9 e9 _ (by rw [if_neg hc61_11])
  · subst hs2
    show WP p e below _ (s₁.setTop (mkF m 6 #[.val (.long q1), .second, .val (.long q2), .second, .val (.long q3), .second, .val (.int p4), .val (.int p5), .val (.int (1 : Int32)), .unset, .unset, .unset, .unset, .unset, .unset] []))
    obtain ⟨T14, h14, X14, e14, E14, A14, D14, -, st14⟩ := newO X0 hx hZ hown (hw _ (List.mem_of_getElem? (i := 0) rfl)) (hw _ (List.mem_of_getElem? (i := 1) rfl)) (hw _ (List.mem_of_getElem? (i := 2) rfl)) e0 (g := (mkF m 6 #[.val (.long q1), .second, .val (.long q2), .second, .val (.long q3), .second, .val (.int p4), .val (.int p5), .val (.int (1 : Int32)), .unset, .unset, .unset, .unset, .unset, .unset] [])) rfl (hb hby at_6) (by decide) (by decide)
    obtain ⟨b14, g14⟩ : ∃ z, z = Array.size h0 := ⟨_, rfl⟩
    rw [← g14] at A14 D14 st14
    refine own_go st14 ?_
    have g_b14 : n0 ≤ b14 := Nat.le_trans (Nat.le_trans Z0 (Keep.refl h0 []).1) (Nat.le_of_eq g14.symm)
    have sz_b14 : h0.size ≤ b14 := Nat.le_trans (Keep.refl h0 []).1 (Nat.le_of_eq g14.symm)
    have K14 : Keep h0 h14 [] := (Keep.refl h0 []).ext E14
    have F14_values : Fld Z h14 b14 "com/example/vestry/vestry/Longs" "values" "[J" .null := D14 (Or.inl (hw _ (List.mem_of_getElem? (i := 14) rfl))) (ty := (.array .long)) (by decide)
    have F14_size : Fld Z h14 b14 "com/example/vestry/vestry/Longs" "size" "I" (.int (0 : Int32)) := D14 (Or.inl (hw _ (List.mem_of_getElem? (i := 16) rfl))) (ty := .int) (by decide)
    show WP p e below _ (T14.setTop (mkF m 9 #[.val (.long q1), .second, .val (.long q2), .second, .val (.long q3), .second, .val (.int p4), .val (.int p5), .val (.int (1 : Int32)), .unset, .unset, .unset, .unset, .unset, .unset] [(.ref b14)]))
    refine own_go (fun t_ k => XS.dup X14.here hx rfl (hb hby at_9) rfl rfl k) ?_
    show WP p e below _ (T14.setTop (mkF m 10 #[.val (.long q1), .second, .val (.long q2), .second, .val (.long q3), .second, .val (.int p4), .val (.int p5), .val (.int (1 : Int32)), .unset, .unset, .unset, .unset, .unset, .unset] [(.ref b14), (.ref b14)]))
    obtain ⟨_, _, ⟨T15, L15, k15, n15⟩, -, X15, ⟨Lc15, hQ15, l15, y15, z15⟩, st15⟩ := X14.specialBack hx (y := (⟨"com/example/vestry/vestry/Longs", "<init>", "()V"⟩ : MethodName)) rfl hown (mvT hZ (hw _ (List.mem_of_getElem? (i := 3) rfl))) (mvT hZ (hw _ (List.mem_of_getElem? (i := 4) rfl))) (mvT hZ (hw _ (List.mem_of_getElem? (i := 5) rfl))) (by decide) (backOf (W := 1) (rm_i0 l Z a0 hw [] b14 h14 n0 (Nat.le_trans Z0 K14.1) A14 g_b14 F14_values F14_size) hZ (hw _ (List.mem_of_getElem? (i := 5) rfl)) (hw _ (List.mem_of_getElem? (i := 2) rfl)) (by decide) (by decide)) (g := (mkF m 10 #[.val (.long q1), .second, .val (.long q2), .second, .val (.long q3), .second, .val (.int p4), .val (.int p5), .val (.int (1 : Int32)), .unset, .unset, .unset, .unset, .unset, .unset] [(.ref b14), (.ref b14)])) rfl (by rw [hml]; rfl) (Steps.refl _) (a := b14) (argsL := []) (rest := [(.ref b14)]) (lenOf pd_3 rfl) rfl (by show 2 * 0 + _ ≤ _; exact Nat.le_of_eq rfl) (hb hby at_10) (fun _ _ => ⟨rfl, e14, (by decide : 1 + 1 ≤ _), (by decide : 2 + 1024 ≤ _)⟩)
    dsimp only [Pt.U, Pt.locs, Pt.cells, Pt.slots] at X15 l15 y15 z15 st15 hQ15
    subst l15 y15 z15
    obtain ⟨rfl, N15q, K15c, t15, kk15, gt15, st15', P15⟩ := hQ15
    have N15 := Fr.app N0 N15q
    replace X15 : Stand p l e room_1 s m _ below meth c T15 _ 2 1026 := X15
    refine own_go (fun t_ k => st15.trans k) ?_
    have K15 : Keep h0 T15.heap [] := K14.trans K15c (allS (Or.inr sz_b14) all0)
    have szt15 : h0.size ≤ t15 := Nat.le_trans K14.1 st15'
    show WP p e below _ (T15.setTop (mkF m 13 #[.val (.long q1), .second, .val (.long q2), .second, .val (.long q3), .second, .val (.int p4), .val (.int p5), .val (.int (1 : Int32)), .unset, .unset, .unset, .unset, .unset, .unset] [(.ref b14)]))
    refine own_go (fun t_ k => XS.astore X15.here hx rfl (hb hby at_13) rfl rfl (l' := #[.val (.long q1), .second, .val (.long q2), .second, .val (.long q3), .second, .val (.int p4), .val (.int p5), .val (.int (1 : Int32)), .val (.ref b14), .unset, .unset, .unset, .unset, .unset]) rfl k) ?_
    show WP p e below _ (T15.setTop (mkF m 15 #[.val (.long q1), .second, .val (.long q2), .second, .val (.long q3), .second, .val (.int p4), .val (.int p5), .val (.int (1 : Int32)), .val (.ref b14), .unset, .unset, .unset, .unset, .unset] []))
    refine own_go (fun t_ k => XS.iload X15.here hx rfl (hb hby at_15) rfl k) ?_
    show WP p e below _ (T15.setTop (mkF m 17 #[.val (.long q1), .second, .val (.long q2), .second, .val (.long q3), .second, .val (.int p4), .val (.int p5), .val (.int (1 : Int32)), .val (.ref b14), .unset, .unset, .unset, .unset, .unset] [(.int (1 : Int32))]))
    have hc17_16 : ((0 : Int32) < (1 : Int32)) := by decide
    refine own_go (fun t_ k => XS.ifNo X15.here hx rfl (hb hby at_17) rfl ((if0 _ _).trans (tlt hc17_16).2.2.2) k) ?_
    show WP p e below _ (T15.setTop (mkF m 20 #[.val (.long q1), .second, .val (.long q2), .second, .val (.long q3), .second, .val (.int p4), .val (.int p5), .val (.int (1 : Int32)), .val (.ref b14), .unset, .unset, .unset, .unset, .unset] []))
    refine own_go (fun t_ k => XS.aload X15.here hx rfl (hb hby at_20) rfl rfl k) ?_
    show WP p e below _ (T15.setTop (mkF m 22 #[.val (.long q1), .second, .val (.long q2), .second, .val (.long q3), .second, .val (.int p4), .val (.int p5), .val (.int (1 : Int32)), .val (.ref b14), .unset, .unset, .unset, .unset, .unset] [(.ref b14)]))
    refine own_go (fun t_ k => XS.lloadN X15.here hx rfl (hb hby at_22) rfl k) ?_
    show WP p e below _ (T15.setTop (mkF m 23 #[.val (.long q1), .second, .val (.long q2), .second, .val (.long q3), .second, .val (.int p4), .val (.int p5), .val (.int (1 : Int32)), .val (.ref b14), .unset, .unset, .unset, .unset, .unset] [(.long q1), (.ref b14)]))
    obtain ⟨cq17, kq17, q17a, q17b, q17c⟩ := isOf (T := T15) hZ rfl P15.1
    obtain ⟨_, _, ⟨T17, L17, k17, n17⟩, -, X17, ⟨Lc17, hQ17, l17, y17, z17⟩, st17⟩ := X15.virtualBack hx (y := (⟨"com/example/vestry/vestry/Longs", "add", "(J)V"⟩ : MethodName)) (z := (⟨"com/example/vestry/vestry/Longs", "add", "(J)V"⟩ : MethodName)) hown (mvT hZ (hw _ (List.mem_of_getElem? (i := 17) rfl))) (mvT hZ (hw _ (List.mem_of_getElem? (i := 18) rfl))) (notFace_of_selects (args := #[]) (mvT hZ (hw _ (List.mem_of_getElem? (i := 20) rfl)))) (mvT hZ (hw _ (List.mem_of_getElem? (i := 20) rfl))) (mvT hZ (hw _ (List.mem_of_getElem? (i := 19) rfl))) (by decide) (backOf (W := 0) (rm_add l Z a0 hw [] b14 q1 t15 kk15 ([] : List Int64) T15.heap n0 P15 g_b14 gt15 (by first | decide | (simp only [List.length_append, List.length_cons, List.length_nil]; omega))) hZ (hw _ (List.mem_of_getElem? (i := 21) rfl)) (hw _ (List.mem_of_getElem? (i := 2) rfl)) (by decide) (by decide)) q17a q17c (g := (mkF m 23 #[.val (.long q1), .second, .val (.long q2), .second, .val (.long q3), .second, .val (.int p4), .val (.int p5), .val (.int (1 : Int32)), .val (.ref b14), .unset, .unset, .unset, .unset, .unset] [(.long q1), (.ref b14)])) rfl (by rw [hml]; rfl) (Steps.refl _) (argsL := [(.long q1)]) (rest := []) (lenOf pd_5 rfl) rfl (by show 2 * 0 + _ ≤ _; exact Nat.le_of_eq rfl) (hb hby at_23) (fun _ _ => ⟨rfl, rfl, (by decide : 2 + 0 ≤ _), (by decide : 1026 + 0 ≤ _)⟩)
    dsimp only [Pt.U, Pt.locs, Pt.cells, Pt.slots] at X17 l17 y17 z17 st17 hQ17
    subst l17 y17 z17
    obtain ⟨rfl, N17q, K17c, P17⟩ := hQ17
    have N17 := Fr.app N15 N17q
    replace X17 : Stand p l e room_1 s m _ below meth c T17 _ 2 1026 := X17
    refine own_go (fun t_ k => st17.trans k) ?_
    have K17 : Keep h0 T17.heap [] := K15.trans K17c (allS (Or.inr sz_b14) (allS (Or.inr szt15) all0))
    replace P17 : LG Z T17.heap b14 t15 kk15 [q1] := P17
    show WP p e below _ (T17.setTop (mkF m 26 #[.val (.long q1), .second, .val (.long q2), .second, .val (.long q3), .second, .val (.int p4), .val (.int p5), .val (.int (1 : Int32)), .val (.ref b14), .unset, .unset, .unset, .unset, .unset] []))
    refine own_go (fun t_ k => XS.iload X17.here hx rfl (hb hby at_26) rfl k) ?_
    show WP p e below _ (T17.setTop (mkF m 28 #[.val (.long q1), .second, .val (.long q2), .second, .val (.long q3), .second, .val (.int p4), .val (.int p5), .val (.int (1 : Int32)), .val (.ref b14), .unset, .unset, .unset, .unset, .unset] [(.int (1 : Int32))]))
    refine own_go (fun t_ k => XS.iconst X17.here hx rfl (hb hby at_28) k) ?_
    show WP p e below _ (T17.setTop (mkF m 29 #[.val (.long q1), .second, .val (.long q2), .second, .val (.long q3), .second, .val (.int p4), .val (.int p5), .val (.int (1 : Int32)), .val (.ref b14), .unset, .unset, .unset, .unset, .unset] [(.int (1 : Int32)), (.int (1 : Int32))]))
    have hc29_18 : ¬ ((1 : Int32) < (1 : Int32)) := by decide
    refine own_go (fun t_ k => XS.icmpYes X17.here hx rfl (pc0 := 29) (pc' := 38) rfl (hb hby at_29) rfl (flt hc29_18).2.2.2 (by decide) (by decide) k) ?_
    show WP p e below _ (T17.setTop (mkF m 38 #[.val (.long q1), .second, .val (.long q2), .second, .val (.long q3), .second, .val (.int p4), .val (.int p5), .val (.int (1 : Int32)), .val (.ref b14), .unset, .unset, .unset, .unset, .unset] []))
    refine own_go (fun t_ k => XS.iload X17.here hx rfl (hb hby at_38) rfl k) ?_
    show WP p e below _ (T17.setTop (mkF m 40 #[.val (.long q1), .second, .val (.long q2), .second, .val (.long q3), .second, .val (.int p4), .val (.int p5), .val (.int (1 : Int32)), .val (.ref b14), .unset, .unset, .unset, .unset, .unset] [(.int (1 : Int32))]))
    refine own_go (fun t_ k => XS.iconst X17.here hx rfl (hb hby at_40) k) ?_
    show WP p e below _ (T17.setTop (mkF m 41 #[.val (.long q1), .second, .val (.long q2), .second, .val (.long q3), .second, .val (.int p4), .val (.int p5), .val (.int (1 : Int32)), .val (.ref b14), .unset, .unset, .unset, .unset, .unset] [(.int (2 : Int32)), (.int (1 : Int32))]))
    have hc41_19 : ¬ ((2 : Int32) < (1 : Int32)) := by decide
    refine own_go (fun t_ k => XS.icmpYes X17.here hx rfl (pc0 := 41) (pc' := 51) rfl (hb hby at_41) rfl (flt hc41_19).2.2.2 (by decide) (by decide) k) ?_
    show WP p e below _ (T17.setTop (mkF m 51 #[.val (.long q1), .second, .val (.long q2), .second, .val (.long q3), .second, .val (.int p4), .val (.int p5), .val (.int (1 : Int32)), .val (.ref b14), .unset, .unset, .unset, .unset, .unset] []))
    refine own_go (fun t_ k => XS.iload X17.here hx rfl (hb hby at_51) rfl k) ?_
    show WP p e below _ (T17.setTop (mkF m 53 #[.val (.long q1), .second, .val (.long q2), .second, .val (.long q3), .second, .val (.int p4), .val (.int p5), .val (.int (1 : Int32)), .val (.ref b14), .unset, .unset, .unset, .unset, .unset] [(.int (1 : Int32))]))
    have hc53_20 : ¬ ((1 : Int32) = (0 : Int32)) := by decide
    refine own_go (fun t_ k => XS.ifYes X17.here hx rfl (pc0 := 53) (pc' := 70) rfl (hb hby at_53) rfl ((if0 _ _).trans (feq hc53_20).2) (by decide) (by decide) k) ?_
    show WP p e below _ (T17.setTop (mkF m 70 #[.val (.long q1), .second, .val (.long q2), .second, .val (.long q3), .second, .val (.int p4), .val (.int p5), .val (.int (1 : Int32)), .val (.ref b14), .unset, .unset, .unset, .unset, .unset] []))
    refine own_go (fun t_ k => XS.iload X17.here hx rfl (hb hby at_70) rfl k) ?_
    show WP p e below _ (T17.setTop (mkF m 72 #[.val (.long q1), .second, .val (.long q2), .second, .val (.long q3), .second, .val (.int p4), .val (.int p5), .val (.int (1 : Int32)), .val (.ref b14), .unset, .unset, .unset, .unset, .unset] [(.int p5)]))
    refine own_go (fun t_ k => X17.ldcInt hx hown (mvT hZ (hw _ (List.mem_of_getElem? (i := 22) rfl))) (g := (mkF m 72 #[.val (.long q1), .second, .val (.long q2), .second, .val (.long q3), .second, .val (.int p4), .val (.int p5), .val (.int (1 : Int32)), .val (.ref b14), .unset, .unset, .unset, .unset, .unset] [(.int p5)])) rfl (hb hby at_72) _ k) ?_
    show WP p e below _ (T17.setTop (mkF m 74 #[.val (.long q1), .second, .val (.long q2), .second, .val (.long q3), .second, .val (.int p4), .val (.int p5), .val (.int (1 : Int32)), .val (.ref b14), .unset, .unset, .unset, .unset, .unset] [(.int (2147483647 : Int32)), (.int p5)]))
    refine own_go (fun t_ k => XS.iand X17.here hx rfl (hb hby at_74) rfl k) ?_
    show WP p e below _ (T17.setTop (mkF m 75 #[.val (.long q1), .second, .val (.long q2), .second, .val (.long q3), .second, .val (.int p4), .val (.int p5), .val (.int (1 : Int32)), .val (.ref b14), .unset, .unset, .unset, .unset, .unset] [(.int (p5 &&& (2147483647 : Int32)))]))
    refine own_go (fun t_ k => XS.iload X17.here hx rfl (hb hby at_75) rfl k) ?_
    show WP p e below _ (T17.setTop (mkF m 77 #[.val (.long q1), .second, .val (.long q2), .second, .val (.long q3), .second, .val (.int p4), .val (.int p5), .val (.int (1 : Int32)), .val (.ref b14), .unset, .unset, .unset, .unset, .unset] [(.int (1 : Int32)), (.int (p5 &&& (2147483647 : Int32)))]))
    refine own_go (fun t_ k => iremM X17 hx rfl (hb hby at_77) rfl (by decide) k) ?_
    show WP p e below _ (T17.setTop (mkF m 78 #[.val (.long q1), .second, .val (.long q2), .second, .val (.long q3), .second, .val (.int p4), .val (.int p5), .val (.int (1 : Int32)), .val (.ref b14), .unset, .unset, .unset, .unset, .unset] [(.int ((p5 &&& (2147483647 : Int32)) % (1 : Int32)))]))
    refine own_go (fun t_ k => XS.istore X17.here hx rfl (hb hby at_78) rfl (l' := #[.val (.long q1), .second, .val (.long q2), .second, .val (.long q3), .second, .val (.int p4), .val (.int p5), .val (.int (1 : Int32)), .val (.ref b14), .val (.int ((p5 &&& (2147483647 : Int32)) % (1 : Int32))), .unset, .unset, .unset, .unset]) rfl k) ?_
    show WP p e below _ (T17.setTop (mkF m 80 #[.val (.long q1), .second, .val (.long q2), .second, .val (.long q3), .second, .val (.int p4), .val (.int p5), .val (.int (1 : Int32)), .val (.ref b14), .val (.int ((p5 &&& (2147483647 : Int32)) % (1 : Int32))), .unset, .unset, .unset, .unset] []))
    generalize he21 : ((p5 &&& (2147483647 : Int32)) % (1 : Int32)) = vi21
    show WP p e below _ (T17.setTop (mkF m 80 #[.val (.long q1), .second, .val (.long q2), .second, .val (.long q3), .second, .val (.int p4), .val (.int p5), .val (.int (1 : Int32)), .val (.ref b14), .val (.int vi21), .unset, .unset, .unset, .unset] []))
    refine own_go (fun t_ k => XS.aload X17.here hx rfl (hb hby at_80) rfl rfl k) ?_
    show WP p e below _ (T17.setTop (mkF m 82 #[.val (.long q1), .second, .val (.long q2), .second, .val (.long q3), .second, .val (.int p4), .val (.int p5), .val (.int (1 : Int32)), .val (.ref b14), .val (.int vi21), .unset, .unset, .unset, .unset] [(.ref b14)]))
    refine own_go (fun t_ k => XS.iload X17.here hx rfl (hb hby at_82) rfl k) ?_
    show WP p e below _ (T17.setTop (mkF m 84 #[.val (.long q1), .second, .val (.long q2), .second, .val (.long q3), .second, .val (.int p4), .val (.int p5), .val (.int (1 : Int32)), .val (.ref b14), .val (.int vi21), .unset, .unset, .unset, .unset] [(.int vi21), (.ref b14)]))
    obtain ⟨cq22, kq22, q22a, q22b, q22c⟩ := isOf (T := T17) hZ rfl P17.1
    obtain ⟨_, _, ⟨T22, L22, k22, n22⟩, -, X22, ⟨Lc22, hQ22, l22, y22, z22⟩, st22⟩ := X17.virtualBack hx (y := (⟨"com/example/vestry/vestry/Longs", "get", "(I)J"⟩ : MethodName)) (z := (⟨"com/example/vestry/vestry/Longs", "get", "(I)J"⟩ : MethodName)) hown (mvT hZ (hw _ (List.mem_of_getElem? (i := 23) rfl))) (mvT hZ (hw _ (List.mem_of_getElem? (i := 24) rfl))) (notFace_of_selects (args := #[]) (mvT hZ (hw _ (List.mem_of_getElem? (i := 26) rfl)))) (mvT hZ (hw _ (List.mem_of_getElem? (i := 26) rfl))) (mvT hZ (hw _ (List.mem_of_getElem? (i := 25) rfl))) (by decide) (backOf (W := 0) (rm_get l Z a0 hw [] b14 vi21 t15 kk15 [q1] T17.heap n0 P17 (by first | decide | (simp only [List.length_append, List.length_cons, List.length_nil]; omega)) (own_rem 1 1 rfl (by decide) (by decide) he21).1 (own_rem 1 1 rfl (by decide) (by decide) he21).2.1) hZ (hw _ (List.mem_of_getElem? (i := 27) rfl)) (hw _ (List.mem_of_getElem? (i := 2) rfl)) (by decide) (by decide)) q22a q22c (g := (mkF m 84 #[.val (.long q1), .second, .val (.long q2), .second, .val (.long q3), .second, .val (.int p4), .val (.int p5), .val (.int (1 : Int32)), .val (.ref b14), .val (.int vi21), .unset, .unset, .unset, .unset] [(.int vi21), (.ref b14)])) rfl (by rw [hml]; rfl) (Steps.refl _) (argsL := [(.int vi21)]) (rest := []) (lenOf pd_6 rfl) rfl (by show 2 * 0 + _ ≤ _; exact Nat.le_of_eq rfl) (hb hby at_84) (fun _ _ => ⟨rfl, rfl, (by decide : 2 + 0 ≤ _), (by decide : 1026 + 0 ≤ _)⟩)
    dsimp only [Pt.U, Pt.locs, Pt.cells, Pt.slots] at X22 l22 y22 z22 st22 hQ22
    subst l22 y22 z22
    obtain ⟨rfl, N22q, e22⟩ := hQ22
    have N22 := Fr.app N17 N22q
    replace X22 : Stand p l e room_1 s m _ below meth c T22 _ 2 1026 := X22
    refine own_go (fun t_ k => st22.trans k) ?_
    show WP p e below _ (T22.setTop (mkF m 87 #[.val (.long q1), .second, .val (.long q2), .second, .val (.long q3), .second, .val (.int p4), .val (.int p5), .val (.int (1 : Int32)), .val (.ref b14), .val (.int vi21), .unset, .unset, .unset, .unset] [(.long (List.getD [q1] vi21.toNatClampNeg 0))]))
    generalize he23 : (List.getD [q1] vi21.toNatClampNeg 0) = vj23
    show WP p e below _ (T22.setTop (mkF m 87 #[.val (.long q1), .second, .val (.long q2), .second, .val (.long q3), .second, .val (.int p4), .val (.int p5), .val (.int (1 : Int32)), .val (.ref b14), .val (.int vi21), .unset, .unset, .unset, .unset] [(.long vj23)]))
    refine own_go (fun t_ k => XS.lstore X22.here hx rfl (hb hby at_87) rfl (l' := #[.val (.long q1), .second, .val (.long q2), .second, .val (.long q3), .second, .val (.int p4), .val (.int p5), .val (.int (1 : Int32)), .val (.ref b14), .val (.int vi21), .val (.long vj23), .second, .unset, .unset]) rfl k) ?_
    show WP p e below _ (T22.setTop (mkF m 89 #[.val (.long q1), .second, .val (.long q2), .second, .val (.long q3), .second, .val (.int p4), .val (.int p5), .val (.int (1 : Int32)), .val (.ref b14), .val (.int vi21), .val (.long vj23), .second, .unset, .unset] []))
    refine own_go (fun t_ k => XS.aload X22.here hx rfl (hb hby at_89) rfl rfl k) ?_
    show WP p e below _ (T22.setTop (mkF m 91 #[.val (.long q1), .second, .val (.long q2), .second, .val (.long q3), .second, .val (.int p4), .val (.int p5), .val (.int (1 : Int32)), .val (.ref b14), .val (.int vi21), .val (.long vj23), .second, .unset, .unset] [(.ref b14)]))
    refine own_go (fun t_ k => XS.iload X22.here hx rfl (hb hby at_91) rfl k) ?_
    show WP p e below _ (T22.setTop (mkF m 93 #[.val (.long q1), .second, .val (.long q2), .second, .val (.long q3), .second, .val (.int p4), .val (.int p5), .val (.int (1 : Int32)), .val (.ref b14), .val (.int vi21), .val (.long vj23), .second, .unset, .unset] [(.int (1 : Int32)), (.ref b14)]))
    refine own_go (fun t_ k => XS.iconst X22.here hx rfl (hb hby at_93) k) ?_
    show WP p e below _ (T22.setTop (mkF m 94 #[.val (.long q1), .second, .val (.long q2), .second, .val (.long q3), .second, .val (.int p4), .val (.int p5), .val (.int (1 : Int32)), .val (.ref b14), .val (.int vi21), .val (.long vj23), .second, .unset, .unset] [(.int (1 : Int32)), (.int (1 : Int32)), (.ref b14)]))
    refine own_go (fun t_ k => XS.isub X22.here hx rfl (hb hby at_94) rfl k) ?_
    show WP p e below _ (T22.setTop (mkF m 95 #[.val (.long q1), .second, .val (.long q2), .second, .val (.long q3), .second, .val (.int p4), .val (.int p5), .val (.int (1 : Int32)), .val (.ref b14), .val (.int vi21), .val (.long vj23), .second, .unset, .unset] [(.int (0 : Int32)), (.ref b14)]))
    obtain ⟨cq24, kq24, q24a, q24b, q24c⟩ := isOf (T := T22) hZ e22 P17.1
    obtain ⟨_, _, ⟨T24, L24, k24, n24⟩, -, X24, ⟨Lc24, hQ24, l24, y24, z24⟩, st24⟩ := X22.virtualBack hx (y := (⟨"com/example/vestry/vestry/Longs", "get", "(I)J"⟩ : MethodName)) (z := (⟨"com/example/vestry/vestry/Longs", "get", "(I)J"⟩ : MethodName)) hown (mvT hZ (hw _ (List.mem_of_getElem? (i := 23) rfl))) (mvT hZ (hw _ (List.mem_of_getElem? (i := 24) rfl))) (notFace_of_selects (args := #[]) (mvT hZ (hw _ (List.mem_of_getElem? (i := 26) rfl)))) (mvT hZ (hw _ (List.mem_of_getElem? (i := 26) rfl))) (mvT hZ (hw _ (List.mem_of_getElem? (i := 25) rfl))) (by decide) (backOf (W := 0) (rm_get l Z a0 hw [] b14 (0 : Int32) t15 kk15 [q1] T17.heap n0 P17 (by first | decide | (simp only [List.length_append, List.length_cons, List.length_nil]; omega)) (by decide) (by show (0 : Int32) < Int32.ofNat 1; decide)) hZ (hw _ (List.mem_of_getElem? (i := 27) rfl)) (hw _ (List.mem_of_getElem? (i := 2) rfl)) (by decide) (by decide)) q24a q24c (g := (mkF m 95 #[.val (.long q1), .second, .val (.long q2), .second, .val (.long q3), .second, .val (.int p4), .val (.int p5), .val (.int (1 : Int32)), .val (.ref b14), .val (.int vi21), .val (.long vj23), .second, .unset, .unset] [(.int (0 : Int32)), (.ref b14)])) rfl (by rw [hml]; rfl) (Steps.refl _) (argsL := [(.int (0 : Int32))]) (rest := []) (lenOf pd_6 rfl) rfl (by show 2 * 0 + _ ≤ _; exact Nat.le_of_eq rfl) (hb hby at_95) (fun _ _ => ⟨rfl, e22, (by decide : 2 + 0 ≤ _), (by decide : 1026 + 0 ≤ _)⟩)
    dsimp only [Pt.U, Pt.locs, Pt.cells, Pt.slots] at X24 l24 y24 z24 st24 hQ24
    subst l24 y24 z24
    obtain ⟨rfl, N24q, e24⟩ := hQ24
    have N24 := Fr.app N22 N24q
    replace X24 : Stand p l e room_1 s m _ below meth c T24 _ 2 1026 := X24
    refine own_go (fun t_ k => st24.trans k) ?_
    show WP p e below _ (T24.setTop (mkF m 98 #[.val (.long q1), .second, .val (.long q2), .second, .val (.long q3), .second, .val (.int p4), .val (.int p5), .val (.int (1 : Int32)), .val (.ref b14), .val (.int vi21), .val (.long vj23), .second, .unset, .unset] [(.long (List.getD [q1] (0 : Int32).toNatClampNeg 0))]))
    generalize he25 : (List.getD [q1] (0 : Int32).toNatClampNeg 0) = vj25
    show WP p e below _ (T24.setTop (mkF m 98 #[.val (.long q1), .second, .val (.long q2), .second, .val (.long q3), .second, .val (.int p4), .val (.int p5), .val (.int (1 : Int32)), .val (.ref b14), .val (.int vi21), .val (.long vj23), .second, .unset, .unset] [(.long vj25)]))
    refine own_go (fun t_ k => XS.lstore X24.here hx rfl (hb hby at_98) rfl (l' := #[.val (.long q1), .second, .val (.long q2), .second, .val (.long q3), .second, .val (.int p4), .val (.int p5), .val (.int (1 : Int32)), .val (.ref b14), .val (.int vi21), .val (.long vj23), .second, .val (.long vj25), .second]) rfl k) ?_
    show WP p e below _ (T24.setTop (mkF m 100 #[.val (.long q1), .second, .val (.long q2), .second, .val (.long q3), .second, .val (.int p4), .val (.int p5), .val (.int (1 : Int32)), .val (.ref b14), .val (.int vi21), .val (.long vj23), .second, .val (.long vj25), .second] []))
    refine own_go (fun t_ k => XS.aload X24.here hx rfl (hb hby at_100) rfl rfl k) ?_
    show WP p e below _ (T24.setTop (mkF m 102 #[.val (.long q1), .second, .val (.long q2), .second, .val (.long q3), .second, .val (.int p4), .val (.int p5), .val (.int (1 : Int32)), .val (.ref b14), .val (.int vi21), .val (.long vj23), .second, .val (.long vj25), .second] [(.ref b14)]))
    obtain ⟨cq26, kq26, q26a, q26b, q26c⟩ := isOf (T := T24) hZ e24 P17.1
    obtain ⟨_, _, ⟨T26, L26, k26, n26⟩, -, X26, ⟨Lc26, hQ26, l26, y26, z26⟩, st26⟩ := X24.virtualBack hx (y := (⟨"com/example/vestry/vestry/Longs", "size", "()I"⟩ : MethodName)) (z := (⟨"com/example/vestry/vestry/Longs", "size", "()I"⟩ : MethodName)) hown (mvT hZ (hw _ (List.mem_of_getElem? (i := 36) rfl))) (mvT hZ (hw _ (List.mem_of_getElem? (i := 37) rfl))) (notFace_of_selects (args := #[]) (mvT hZ (hw _ (List.mem_of_getElem? (i := 39) rfl)))) (mvT hZ (hw _ (List.mem_of_getElem? (i := 39) rfl))) (mvT hZ (hw _ (List.mem_of_getElem? (i := 38) rfl))) (by decide) (backOf (W := 0) (rm_size l Z a0 hw [] b14 t15 kk15 [q1] T17.heap n0 P17) hZ (hw _ (List.mem_of_getElem? (i := 40) rfl)) (hw _ (List.mem_of_getElem? (i := 2) rfl)) (by decide) (by decide)) q26a q26c (g := (mkF m 102 #[.val (.long q1), .second, .val (.long q2), .second, .val (.long q3), .second, .val (.int p4), .val (.int p5), .val (.int (1 : Int32)), .val (.ref b14), .val (.int vi21), .val (.long vj23), .second, .val (.long vj25), .second] [(.ref b14)])) rfl (by rw [hml]; rfl) (Steps.refl _) (argsL := []) (rest := []) (lenOf pd_4 rfl) rfl (by show 2 * 0 + _ ≤ _; exact Nat.le_of_eq rfl) (hb hby at_102) (fun _ _ => ⟨rfl, e24, (by decide : 2 + 0 ≤ _), (by decide : 1026 + 0 ≤ _)⟩)
    dsimp only [Pt.U, Pt.locs, Pt.cells, Pt.slots] at X26 l26 y26 z26 st26 hQ26
    subst l26 y26 z26
    obtain ⟨rfl, N26q, e26⟩ := hQ26
    have N26 := Fr.app N24 N26q
    replace X26 : Stand p l e room_1 s m _ below meth c T26 _ 2 1026 := X26
    refine own_go (fun t_ k => st26.trans k) ?_
    show WP p e below _ (T26.setTop (mkF m 105 #[.val (.long q1), .second, .val (.long q2), .second, .val (.long q3), .second, .val (.int p4), .val (.int p5), .val (.int (1 : Int32)), .val (.ref b14), .val (.int vi21), .val (.long vj23), .second, .val (.long vj25), .second] [(.int (Int32.ofNat (List.length [q1])))]))
    generalize he27 : (Int32.ofNat (List.length [q1])) = vi27
    show WP p e below _ (T26.setTop (mkF m 105 #[.val (.long q1), .second, .val (.long q2), .second, .val (.long q3), .second, .val (.int p4), .val (.int p5), .val (.int (1 : Int32)), .val (.ref b14), .val (.int vi21), .val (.long vj23), .second, .val (.long vj25), .second] [(.int vi27)]))
    refine own_go (fun t_ k => XS.iload X26.here hx rfl (hb hby at_105) rfl k) ?_
    show WP p e below _ (T26.setTop (mkF m 107 #[.val (.long q1), .second, .val (.long q2), .second, .val (.long q3), .second, .val (.int p4), .val (.int p5), .val (.int (1 : Int32)), .val (.ref b14), .val (.int vi21), .val (.long vj23), .second, .val (.long vj25), .second] [(.int (1 : Int32)), (.int vi27)]))
    have J30 : ∀ (T30 : State) (ls30 : List Loc) (X30 : Stand p l e room_1 s m #[(.long q1), (.long q2), (.long q3), (.int p4), (.int p5)] below meth c T30 ls30 2 1026) (N30 : Fr n0 ls30) (e30 : T30.heap = T17.heap) (z29_S0 : Int32) (hz29_S0 : z29_S0 = (if vi27 = (1 : Int32) then (if vj23 = (f9 vi21 q1 q2 q3) then (if vj25 = (f9 (0 : Int32) q1 q2 q3) then (1 : Int32) else (0 : Int32)) else (0 : Int32)) else (0 : Int32))), WP p e below (GG (Q0 n0) s room_1.cells room_1.slots) (T30.setTop (mkF m 147 #[.val (.long q1), .second, .val (.long q2), .second, .val (.long q3), .second, .val (.int p4), .val (.int p5), .val (.int (1 : Int32)), .val (.ref b14), .val (.int vi21), .val (.long vj23), .second, .val (.long vj25), .second] [(.int z29_S0)])) := by
      intro T30 ls30 X30 N30 e30 z29_S0 hz29_S0
      show WP p e below _ (T30.setTop (mkF m 147 #[.val (.long q1), .second, .val (.long q2), .second, .val (.long q3), .second, .val (.int p4), .val (.int p5), .val (.int (1 : Int32)), .val (.ref b14), .val (.int vi21), .val (.long vj23), .second, .val (.long vj25), .second] [(.int z29_S0)]))
      exact own_retZ X30 hx Bd.notSynchronized Bd.returns (hb hby at_147) (by rw [hz29_S0]; (repeat' split); all_goals first | exact Or.inl rfl | exact Or.inr rfl) (show Q0 n0 _ _ _ from ⟨congrArg (fun z => some (Value.int z)) (own_law_2 (q1 := q1) (q2 := q2) (q3 := q3) (p4 := p4) (p5 := p5) he1 he21 he23 he25 he27 hz29_S0), N30⟩) (by decide) (by decide)
    by_cases hc107_28 : vi27 = (1 : Int32)
    · refine own_go (fun t_ k => XS.icmpNo X26.here hx rfl (hb hby at_107) rfl (teq hc107_28).2 k) ?_
      show WP p e below _ (T26.setTop (mkF m 110 #[.val (.long q1), .second, .val (.long q2), .second, .val (.long q3), .second, .val (.int p4), .val (.int p5), .val (.int (1 : Int32)), .val (.ref b14), .val (.int vi21), .val (.long vj23), .second, .val (.long vj25), .second] []))
      refine own_go (fun t_ k => XS.lload X26.here hx rfl (hb hby at_110) rfl k) ?_
      show WP p e below _ (T26.setTop (mkF m 112 #[.val (.long q1), .second, .val (.long q2), .second, .val (.long q3), .second, .val (.int p4), .val (.int p5), .val (.int (1 : Int32)), .val (.ref b14), .val (.int vi21), .val (.long vj23), .second, .val (.long vj25), .second] [(.long vj23)]))
      refine own_go (fun t_ k => XS.iload X26.here hx rfl (hb hby at_112) rfl k) ?_
      show WP p e below _ (T26.setTop (mkF m 114 #[.val (.long q1), .second, .val (.long q2), .second, .val (.long q3), .second, .val (.int p4), .val (.int p5), .val (.int (1 : Int32)), .val (.ref b14), .val (.int vi21), .val (.long vj23), .second, .val (.long vj25), .second] [(.int vi21), (.long vj23)]))
      refine own_go (fun t_ k => XS.lloadN X26.here hx rfl (hb hby at_114) rfl k) ?_
      show WP p e below _ (T26.setTop (mkF m 115 #[.val (.long q1), .second, .val (.long q2), .second, .val (.long q3), .second, .val (.int p4), .val (.int p5), .val (.int (1 : Int32)), .val (.ref b14), .val (.int vi21), .val (.long vj23), .second, .val (.long vj25), .second] [(.long q1), (.int vi21), (.long vj23)]))
      refine own_go (fun t_ k => XS.lloadN X26.here hx rfl (hb hby at_115) rfl k) ?_
      show WP p e below _ (T26.setTop (mkF m 116 #[.val (.long q1), .second, .val (.long q2), .second, .val (.long q3), .second, .val (.int p4), .val (.int p5), .val (.int (1 : Int32)), .val (.ref b14), .val (.int vi21), .val (.long vj23), .second, .val (.long vj25), .second] [(.long q2), (.long q1), (.int vi21), (.long vj23)]))
      refine own_go (fun t_ k => XS.lload X26.here hx rfl (hb hby at_116) rfl k) ?_
      show WP p e below _ (T26.setTop (mkF m 118 #[.val (.long q1), .second, .val (.long q2), .second, .val (.long q3), .second, .val (.int p4), .val (.int p5), .val (.int (1 : Int32)), .val (.ref b14), .val (.int vi21), .val (.long vj23), .second, .val (.long vj25), .second] [(.long q3), (.long q2), (.long q1), (.int vi21), (.long vj23)]))
      obtain ⟨_, _, ⟨T31, L31, k31, n31⟩, -, X31, ⟨Lc31, hQ31, l31, y31, z31⟩, st31⟩ := Jvm.LawKit.callS X26 hx (y := (⟨"com/example/vestry/vestry/LongsGetPinLaw", "nth", "(IJJJ)J"⟩ : MethodName)) hown (mvT hZ (hw _ (List.mem_of_getElem? (i := 41) rfl))) (mvT hZ (hw _ (List.mem_of_getElem? (i := 42) rfl))) (mvT hZ (hw _ (List.mem_of_getElem? (i := 43) rfl))) (mvT hZ (hw _ (List.mem_of_getElem? (i := 44) rfl))) (by decide) (backOf (W := 2) (rm9 l Z a0 hw [] vi21 q1 q2 q3 T17.heap n0) hZ (hw _ (List.mem_of_getElem? (i := 44) rfl)) (hw _ (List.mem_of_getElem? (i := 43) rfl)) (by decide) (by decide)) (g := (mkF m 118 #[.val (.long q1), .second, .val (.long q2), .second, .val (.long q3), .second, .val (.int p4), .val (.int p5), .val (.int (1 : Int32)), .val (.ref b14), .val (.int vi21), .val (.long vj23), .second, .val (.long vj25), .second] [(.long q3), (.long q2), (.long q1), (.int vi21), (.long vj23)])) rfl (by rw [hml]; rfl) (argsL := [(.int vi21), (.long q1), (.long q2), (.long q3)]) (rest := [(.long vj23)]) (lenOf pd_7 rfl) rfl (by show 2 * 0 + _ ≤ _; exact Nat.le_of_eq rfl) (hb hby at_118) (fun _ _ => ⟨rfl, e26, (by decide : 2 + 0 ≤ _), (by decide : 1026 + 0 ≤ _)⟩)
      dsimp only [Pt.U, Pt.locs, Pt.cells, Pt.slots] at X31 l31 y31 z31 st31 hQ31
      subst l31 y31 z31
      obtain ⟨rfl, N31q, e31⟩ := hQ31
      have N31 := Fr.app N26 N31q
      replace X31 : Stand p l e room_1 s m _ below meth c T31 _ 2 1026 := X31
      refine own_go st31 ?_
      show WP p e below _ (T31.setTop (mkF m 121 #[.val (.long q1), .second, .val (.long q2), .second, .val (.long q3), .second, .val (.int p4), .val (.int p5), .val (.int (1 : Int32)), .val (.ref b14), .val (.int vi21), .val (.long vj23), .second, .val (.long vj25), .second] [(.long (f9 vi21 q1 q2 q3)), (.long vj23)]))
      refine own_go (fun t_ k => XS.lcmp X31.here hx rfl (hb hby at_121) rfl k) ?_
      show WP p e below _ (T31.setTop (mkF m 122 #[.val (.long q1), .second, .val (.long q2), .second, .val (.long q3), .second, .val (.int p4), .val (.int p5), .val (.int (1 : Int32)), .val (.ref b14), .val (.int vi21), .val (.long vj23), .second, .val (.long vj25), .second] [(.int (lcmpW vj23 (f9 vi21 q1 q2 q3)))]))
      by_cases hc122_32 : vj23 = (f9 vi21 q1 q2 q3)
      · refine own_go (fun t_ k => XS.ifNo X31.here hx rfl (hb hby at_122) rfl ((if0 _ _).trans (teq ((lw_eq _ _).mpr hc122_32)).2) k) ?_
        show WP p e below _ (T31.setTop (mkF m 125 #[.val (.long q1), .second, .val (.long q2), .second, .val (.long q3), .second, .val (.int p4), .val (.int p5), .val (.int (1 : Int32)), .val (.ref b14), .val (.int vi21), .val (.long vj23), .second, .val (.long vj25), .second] []))
        refine own_go (fun t_ k => XS.lload X31.here hx rfl (hb hby at_125) rfl k) ?_
        show WP p e below _ (T31.setTop (mkF m 127 #[.val (.long q1), .second, .val (.long q2), .second, .val (.long q3), .second, .val (.int p4), .val (.int p5), .val (.int (1 : Int32)), .val (.ref b14), .val (.int vi21), .val (.long vj23), .second, .val (.long vj25), .second] [(.long vj25)]))
        refine own_go (fun t_ k => XS.iload X31.here hx rfl (hb hby at_127) rfl k) ?_
        show WP p e below _ (T31.setTop (mkF m 129 #[.val (.long q1), .second, .val (.long q2), .second, .val (.long q3), .second, .val (.int p4), .val (.int p5), .val (.int (1 : Int32)), .val (.ref b14), .val (.int vi21), .val (.long vj23), .second, .val (.long vj25), .second] [(.int (1 : Int32)), (.long vj25)]))
        refine own_go (fun t_ k => XS.iconst X31.here hx rfl (hb hby at_129) k) ?_
        show WP p e below _ (T31.setTop (mkF m 130 #[.val (.long q1), .second, .val (.long q2), .second, .val (.long q3), .second, .val (.int p4), .val (.int p5), .val (.int (1 : Int32)), .val (.ref b14), .val (.int vi21), .val (.long vj23), .second, .val (.long vj25), .second] [(.int (1 : Int32)), (.int (1 : Int32)), (.long vj25)]))
        refine own_go (fun t_ k => XS.isub X31.here hx rfl (hb hby at_130) rfl k) ?_
        show WP p e below _ (T31.setTop (mkF m 131 #[.val (.long q1), .second, .val (.long q2), .second, .val (.long q3), .second, .val (.int p4), .val (.int p5), .val (.int (1 : Int32)), .val (.ref b14), .val (.int vi21), .val (.long vj23), .second, .val (.long vj25), .second] [(.int (0 : Int32)), (.long vj25)]))
        refine own_go (fun t_ k => XS.lloadN X31.here hx rfl (hb hby at_131) rfl k) ?_
        show WP p e below _ (T31.setTop (mkF m 132 #[.val (.long q1), .second, .val (.long q2), .second, .val (.long q3), .second, .val (.int p4), .val (.int p5), .val (.int (1 : Int32)), .val (.ref b14), .val (.int vi21), .val (.long vj23), .second, .val (.long vj25), .second] [(.long q1), (.int (0 : Int32)), (.long vj25)]))
        refine own_go (fun t_ k => XS.lloadN X31.here hx rfl (hb hby at_132) rfl k) ?_
        show WP p e below _ (T31.setTop (mkF m 133 #[.val (.long q1), .second, .val (.long q2), .second, .val (.long q3), .second, .val (.int p4), .val (.int p5), .val (.int (1 : Int32)), .val (.ref b14), .val (.int vi21), .val (.long vj23), .second, .val (.long vj25), .second] [(.long q2), (.long q1), (.int (0 : Int32)), (.long vj25)]))
        refine own_go (fun t_ k => XS.lload X31.here hx rfl (hb hby at_133) rfl k) ?_
        show WP p e below _ (T31.setTop (mkF m 135 #[.val (.long q1), .second, .val (.long q2), .second, .val (.long q3), .second, .val (.int p4), .val (.int p5), .val (.int (1 : Int32)), .val (.ref b14), .val (.int vi21), .val (.long vj23), .second, .val (.long vj25), .second] [(.long q3), (.long q2), (.long q1), (.int (0 : Int32)), (.long vj25)]))
        obtain ⟨_, _, ⟨T33, L33, k33, n33⟩, -, X33, ⟨Lc33, hQ33, l33, y33, z33⟩, st33⟩ := Jvm.LawKit.callS X31 hx (y := (⟨"com/example/vestry/vestry/LongsGetPinLaw", "nth", "(IJJJ)J"⟩ : MethodName)) hown (mvT hZ (hw _ (List.mem_of_getElem? (i := 41) rfl))) (mvT hZ (hw _ (List.mem_of_getElem? (i := 42) rfl))) (mvT hZ (hw _ (List.mem_of_getElem? (i := 43) rfl))) (mvT hZ (hw _ (List.mem_of_getElem? (i := 44) rfl))) (by decide) (backOf (W := 2) (rm9 l Z a0 hw [] (0 : Int32) q1 q2 q3 T17.heap n0) hZ (hw _ (List.mem_of_getElem? (i := 44) rfl)) (hw _ (List.mem_of_getElem? (i := 43) rfl)) (by decide) (by decide)) (g := (mkF m 135 #[.val (.long q1), .second, .val (.long q2), .second, .val (.long q3), .second, .val (.int p4), .val (.int p5), .val (.int (1 : Int32)), .val (.ref b14), .val (.int vi21), .val (.long vj23), .second, .val (.long vj25), .second] [(.long q3), (.long q2), (.long q1), (.int (0 : Int32)), (.long vj25)])) rfl (by rw [hml]; rfl) (argsL := [(.int (0 : Int32)), (.long q1), (.long q2), (.long q3)]) (rest := [(.long vj25)]) (lenOf pd_7 rfl) rfl (by show 2 * 0 + _ ≤ _; exact Nat.le_of_eq rfl) (hb hby at_135) (fun _ _ => ⟨rfl, e31, (by decide : 2 + 0 ≤ _), (by decide : 1026 + 0 ≤ _)⟩)
        dsimp only [Pt.U, Pt.locs, Pt.cells, Pt.slots] at X33 l33 y33 z33 st33 hQ33
        subst l33 y33 z33
        obtain ⟨rfl, N33q, e33⟩ := hQ33
        have N33 := Fr.app N31 N33q
        replace X33 : Stand p l e room_1 s m _ below meth c T33 _ 2 1026 := X33
        refine own_go st33 ?_
        show WP p e below _ (T33.setTop (mkF m 138 #[.val (.long q1), .second, .val (.long q2), .second, .val (.long q3), .second, .val (.int p4), .val (.int p5), .val (.int (1 : Int32)), .val (.ref b14), .val (.int vi21), .val (.long vj23), .second, .val (.long vj25), .second] [(.long (f9 (0 : Int32) q1 q2 q3)), (.long vj25)]))
        refine own_go (fun t_ k => XS.lcmp X33.here hx rfl (hb hby at_138) rfl k) ?_
        show WP p e below _ (T33.setTop (mkF m 139 #[.val (.long q1), .second, .val (.long q2), .second, .val (.long q3), .second, .val (.int p4), .val (.int p5), .val (.int (1 : Int32)), .val (.ref b14), .val (.int vi21), .val (.long vj23), .second, .val (.long vj25), .second] [(.int (lcmpW vj25 (f9 (0 : Int32) q1 q2 q3)))]))
        by_cases hc139_34 : vj25 = (f9 (0 : Int32) q1 q2 q3)
        · refine own_go (fun t_ k => XS.ifNo X33.here hx rfl (hb hby at_139) rfl ((if0 _ _).trans (teq ((lw_eq _ _).mpr hc139_34)).2) k) ?_
          show WP p e below _ (T33.setTop (mkF m 142 #[.val (.long q1), .second, .val (.long q2), .second, .val (.long q3), .second, .val (.int p4), .val (.int p5), .val (.int (1 : Int32)), .val (.ref b14), .val (.int vi21), .val (.long vj23), .second, .val (.long vj25), .second] []))
          refine own_go (fun t_ k => XS.iconst X33.here hx rfl (hb hby at_142) k) ?_
          show WP p e below _ (T33.setTop (mkF m 143 #[.val (.long q1), .second, .val (.long q2), .second, .val (.long q3), .second, .val (.int p4), .val (.int p5), .val (.int (1 : Int32)), .val (.ref b14), .val (.int vi21), .val (.long vj23), .second, .val (.long vj25), .second] [(.int (1 : Int32))]))
          refine own_go (fun t_ k => XS.goto X33.here hx rfl (pc0 := 143) (pc' := 147) rfl (hb hby at_143) (by decide) (by decide) k) ?_
          show WP p e below _ (T33.setTop (mkF m 147 #[.val (.long q1), .second, .val (.long q2), .second, .val (.long q3), .second, .val (.int p4), .val (.int p5), .val (.int (1 : Int32)), .val (.ref b14), .val (.int vi21), .val (.long vj23), .second, .val (.long vj25), .second] [(.int (1 : Int32))]))
          exact J30 T33 _ X33 N33 e33 _ (by rw [if_pos hc107_28, if_pos hc122_32, if_pos hc139_34])
        · refine own_go (fun t_ k => XS.ifYes X33.here hx rfl (pc0 := 139) (pc' := 146) rfl (hb hby at_139) rfl ((if0 _ _).trans (feq (mt (lw_eq _ _).mp hc139_34)).2) (by decide) (by decide) k) ?_
          show WP p e below _ (T33.setTop (mkF m 146 #[.val (.long q1), .second, .val (.long q2), .second, .val (.long q3), .second, .val (.int p4), .val (.int p5), .val (.int (1 : Int32)), .val (.ref b14), .val (.int vi21), .val (.long vj23), .second, .val (.long vj25), .second] []))
          refine own_go (fun t_ k => XS.iconst X33.here hx rfl (hb hby at_146) k) ?_
          show WP p e below _ (T33.setTop (mkF m 147 #[.val (.long q1), .second, .val (.long q2), .second, .val (.long q3), .second, .val (.int p4), .val (.int p5), .val (.int (1 : Int32)), .val (.ref b14), .val (.int vi21), .val (.long vj23), .second, .val (.long vj25), .second] [(.int (0 : Int32))]))
          exact J30 T33 _ X33 N33 e33 _ (by rw [if_pos hc107_28, if_pos hc122_32, if_neg hc139_34])
      · refine own_go (fun t_ k => XS.ifYes X31.here hx rfl (pc0 := 122) (pc' := 146) rfl (hb hby at_122) rfl ((if0 _ _).trans (feq (mt (lw_eq _ _).mp hc122_32)).2) (by decide) (by decide) k) ?_
        show WP p e below _ (T31.setTop (mkF m 146 #[.val (.long q1), .second, .val (.long q2), .second, .val (.long q3), .second, .val (.int p4), .val (.int p5), .val (.int (1 : Int32)), .val (.ref b14), .val (.int vi21), .val (.long vj23), .second, .val (.long vj25), .second] []))
        refine own_go (fun t_ k => XS.iconst X31.here hx rfl (hb hby at_146) k) ?_
        show WP p e below _ (T31.setTop (mkF m 147 #[.val (.long q1), .second, .val (.long q2), .second, .val (.long q3), .second, .val (.int p4), .val (.int p5), .val (.int (1 : Int32)), .val (.ref b14), .val (.int vi21), .val (.long vj23), .second, .val (.long vj25), .second] [(.int (0 : Int32))]))
        exact J30 T31 _ X31 N31 e31 _ (by rw [if_pos hc107_28, if_neg hc122_32])
    · refine own_go (fun t_ k => XS.icmpYes X26.here hx rfl (pc0 := 107) (pc' := 146) rfl (hb hby at_107) rfl (feq hc107_28).2 (by decide) (by decide) k) ?_
      show WP p e below _ (T26.setTop (mkF m 146 #[.val (.long q1), .second, .val (.long q2), .second, .val (.long q3), .second, .val (.int p4), .val (.int p5), .val (.int (1 : Int32)), .val (.ref b14), .val (.int vi21), .val (.long vj23), .second, .val (.long vj25), .second] []))
      refine own_go (fun t_ k => XS.iconst X26.here hx rfl (hb hby at_146) k) ?_
      show WP p e below _ (T26.setTop (mkF m 147 #[.val (.long q1), .second, .val (.long q2), .second, .val (.long q3), .second, .val (.int p4), .val (.int p5), .val (.int (1 : Int32)), .val (.ref b14), .val (.int vi21), .val (.long vj23), .second, .val (.long vj25), .second] [(.int (0 : Int32))]))
      exact J30 T26 _ X26 N26 e26 _ (by rw [if_neg hc107_28])
  · subst hs2
    show WP p e below _ (s₁.setTop (mkF m 6 #[.val (.long q1), .second, .val (.long q2), .second, .val (.long q3), .second, .val (.int p4), .val (.int p5), .val (.int (2 : Int32)), .unset, .unset, .unset, .unset, .unset, .unset] []))
    obtain ⟨T35, h35, X35, e35, E35, A35, D35, -, st35⟩ := newO X0 hx hZ hown (hw _ (List.mem_of_getElem? (i := 0) rfl)) (hw _ (List.mem_of_getElem? (i := 1) rfl)) (hw _ (List.mem_of_getElem? (i := 2) rfl)) e0 (g := (mkF m 6 #[.val (.long q1), .second, .val (.long q2), .second, .val (.long q3), .second, .val (.int p4), .val (.int p5), .val (.int (2 : Int32)), .unset, .unset, .unset, .unset, .unset, .unset] [])) rfl (hb hby at_6) (by decide) (by decide)
    obtain ⟨b35, g35⟩ : ∃ z, z = Array.size h0 := ⟨_, rfl⟩
    rw [← g35] at A35 D35 st35
    refine own_go st35 ?_
    have g_b35 : n0 ≤ b35 := Nat.le_trans (Nat.le_trans Z0 (Keep.refl h0 []).1) (Nat.le_of_eq g35.symm)
    have sz_b35 : h0.size ≤ b35 := Nat.le_trans (Keep.refl h0 []).1 (Nat.le_of_eq g35.symm)
    have K35 : Keep h0 h35 [] := (Keep.refl h0 []).ext E35
    have F35_values : Fld Z h35 b35 "com/example/vestry/vestry/Longs" "values" "[J" .null := D35 (Or.inl (hw _ (List.mem_of_getElem? (i := 14) rfl))) (ty := (.array .long)) (by decide)
    have F35_size : Fld Z h35 b35 "com/example/vestry/vestry/Longs" "size" "I" (.int (0 : Int32)) := D35 (Or.inl (hw _ (List.mem_of_getElem? (i := 16) rfl))) (ty := .int) (by decide)
    show WP p e below _ (T35.setTop (mkF m 9 #[.val (.long q1), .second, .val (.long q2), .second, .val (.long q3), .second, .val (.int p4), .val (.int p5), .val (.int (2 : Int32)), .unset, .unset, .unset, .unset, .unset, .unset] [(.ref b35)]))
    refine own_go (fun t_ k => XS.dup X35.here hx rfl (hb hby at_9) rfl rfl k) ?_
    show WP p e below _ (T35.setTop (mkF m 10 #[.val (.long q1), .second, .val (.long q2), .second, .val (.long q3), .second, .val (.int p4), .val (.int p5), .val (.int (2 : Int32)), .unset, .unset, .unset, .unset, .unset, .unset] [(.ref b35), (.ref b35)]))
    obtain ⟨_, _, ⟨T36, L36, k36, n36⟩, -, X36, ⟨Lc36, hQ36, l36, y36, z36⟩, st36⟩ := X35.specialBack hx (y := (⟨"com/example/vestry/vestry/Longs", "<init>", "()V"⟩ : MethodName)) rfl hown (mvT hZ (hw _ (List.mem_of_getElem? (i := 3) rfl))) (mvT hZ (hw _ (List.mem_of_getElem? (i := 4) rfl))) (mvT hZ (hw _ (List.mem_of_getElem? (i := 5) rfl))) (by decide) (backOf (W := 1) (rm_i0 l Z a0 hw [] b35 h35 n0 (Nat.le_trans Z0 K35.1) A35 g_b35 F35_values F35_size) hZ (hw _ (List.mem_of_getElem? (i := 5) rfl)) (hw _ (List.mem_of_getElem? (i := 2) rfl)) (by decide) (by decide)) (g := (mkF m 10 #[.val (.long q1), .second, .val (.long q2), .second, .val (.long q3), .second, .val (.int p4), .val (.int p5), .val (.int (2 : Int32)), .unset, .unset, .unset, .unset, .unset, .unset] [(.ref b35), (.ref b35)])) rfl (by rw [hml]; rfl) (Steps.refl _) (a := b35) (argsL := []) (rest := [(.ref b35)]) (lenOf pd_3 rfl) rfl (by show 2 * 0 + _ ≤ _; exact Nat.le_of_eq rfl) (hb hby at_10) (fun _ _ => ⟨rfl, e35, (by decide : 1 + 1 ≤ _), (by decide : 2 + 1024 ≤ _)⟩)
    dsimp only [Pt.U, Pt.locs, Pt.cells, Pt.slots] at X36 l36 y36 z36 st36 hQ36
    subst l36 y36 z36
    obtain ⟨rfl, N36q, K36c, t36, kk36, gt36, st36', P36⟩ := hQ36
    have N36 := Fr.app N0 N36q
    replace X36 : Stand p l e room_1 s m _ below meth c T36 _ 2 1026 := X36
    refine own_go (fun t_ k => st36.trans k) ?_
    have K36 : Keep h0 T36.heap [] := K35.trans K36c (allS (Or.inr sz_b35) all0)
    have szt36 : h0.size ≤ t36 := Nat.le_trans K35.1 st36'
    show WP p e below _ (T36.setTop (mkF m 13 #[.val (.long q1), .second, .val (.long q2), .second, .val (.long q3), .second, .val (.int p4), .val (.int p5), .val (.int (2 : Int32)), .unset, .unset, .unset, .unset, .unset, .unset] [(.ref b35)]))
    refine own_go (fun t_ k => XS.astore X36.here hx rfl (hb hby at_13) rfl rfl (l' := #[.val (.long q1), .second, .val (.long q2), .second, .val (.long q3), .second, .val (.int p4), .val (.int p5), .val (.int (2 : Int32)), .val (.ref b35), .unset, .unset, .unset, .unset, .unset]) rfl k) ?_
    show WP p e below _ (T36.setTop (mkF m 15 #[.val (.long q1), .second, .val (.long q2), .second, .val (.long q3), .second, .val (.int p4), .val (.int p5), .val (.int (2 : Int32)), .val (.ref b35), .unset, .unset, .unset, .unset, .unset] []))
    refine own_go (fun t_ k => XS.iload X36.here hx rfl (hb hby at_15) rfl k) ?_
    show WP p e below _ (T36.setTop (mkF m 17 #[.val (.long q1), .second, .val (.long q2), .second, .val (.long q3), .second, .val (.int p4), .val (.int p5), .val (.int (2 : Int32)), .val (.ref b35), .unset, .unset, .unset, .unset, .unset] [(.int (2 : Int32))]))
    have hc17_37 : ((0 : Int32) < (2 : Int32)) := by decide
    refine own_go (fun t_ k => XS.ifNo X36.here hx rfl (hb hby at_17) rfl ((if0 _ _).trans (tlt hc17_37).2.2.2) k) ?_
    show WP p e below _ (T36.setTop (mkF m 20 #[.val (.long q1), .second, .val (.long q2), .second, .val (.long q3), .second, .val (.int p4), .val (.int p5), .val (.int (2 : Int32)), .val (.ref b35), .unset, .unset, .unset, .unset, .unset] []))
    refine own_go (fun t_ k => XS.aload X36.here hx rfl (hb hby at_20) rfl rfl k) ?_
    show WP p e below _ (T36.setTop (mkF m 22 #[.val (.long q1), .second, .val (.long q2), .second, .val (.long q3), .second, .val (.int p4), .val (.int p5), .val (.int (2 : Int32)), .val (.ref b35), .unset, .unset, .unset, .unset, .unset] [(.ref b35)]))
    refine own_go (fun t_ k => XS.lloadN X36.here hx rfl (hb hby at_22) rfl k) ?_
    show WP p e below _ (T36.setTop (mkF m 23 #[.val (.long q1), .second, .val (.long q2), .second, .val (.long q3), .second, .val (.int p4), .val (.int p5), .val (.int (2 : Int32)), .val (.ref b35), .unset, .unset, .unset, .unset, .unset] [(.long q1), (.ref b35)]))
    obtain ⟨cq38, kq38, q38a, q38b, q38c⟩ := isOf (T := T36) hZ rfl P36.1
    obtain ⟨_, _, ⟨T38, L38, k38, n38⟩, -, X38, ⟨Lc38, hQ38, l38, y38, z38⟩, st38⟩ := X36.virtualBack hx (y := (⟨"com/example/vestry/vestry/Longs", "add", "(J)V"⟩ : MethodName)) (z := (⟨"com/example/vestry/vestry/Longs", "add", "(J)V"⟩ : MethodName)) hown (mvT hZ (hw _ (List.mem_of_getElem? (i := 17) rfl))) (mvT hZ (hw _ (List.mem_of_getElem? (i := 18) rfl))) (notFace_of_selects (args := #[]) (mvT hZ (hw _ (List.mem_of_getElem? (i := 20) rfl)))) (mvT hZ (hw _ (List.mem_of_getElem? (i := 20) rfl))) (mvT hZ (hw _ (List.mem_of_getElem? (i := 19) rfl))) (by decide) (backOf (W := 0) (rm_add l Z a0 hw [] b35 q1 t36 kk36 ([] : List Int64) T36.heap n0 P36 g_b35 gt36 (by first | decide | (simp only [List.length_append, List.length_cons, List.length_nil]; omega))) hZ (hw _ (List.mem_of_getElem? (i := 21) rfl)) (hw _ (List.mem_of_getElem? (i := 2) rfl)) (by decide) (by decide)) q38a q38c (g := (mkF m 23 #[.val (.long q1), .second, .val (.long q2), .second, .val (.long q3), .second, .val (.int p4), .val (.int p5), .val (.int (2 : Int32)), .val (.ref b35), .unset, .unset, .unset, .unset, .unset] [(.long q1), (.ref b35)])) rfl (by rw [hml]; rfl) (Steps.refl _) (argsL := [(.long q1)]) (rest := []) (lenOf pd_5 rfl) rfl (by show 2 * 0 + _ ≤ _; exact Nat.le_of_eq rfl) (hb hby at_23) (fun _ _ => ⟨rfl, rfl, (by decide : 2 + 0 ≤ _), (by decide : 1026 + 0 ≤ _)⟩)
    dsimp only [Pt.U, Pt.locs, Pt.cells, Pt.slots] at X38 l38 y38 z38 st38 hQ38
    subst l38 y38 z38
    obtain ⟨rfl, N38q, K38c, P38⟩ := hQ38
    have N38 := Fr.app N36 N38q
    replace X38 : Stand p l e room_1 s m _ below meth c T38 _ 2 1026 := X38
    refine own_go (fun t_ k => st38.trans k) ?_
    have K38 : Keep h0 T38.heap [] := K36.trans K38c (allS (Or.inr sz_b35) (allS (Or.inr szt36) all0))
    replace P38 : LG Z T38.heap b35 t36 kk36 [q1] := P38
    show WP p e below _ (T38.setTop (mkF m 26 #[.val (.long q1), .second, .val (.long q2), .second, .val (.long q3), .second, .val (.int p4), .val (.int p5), .val (.int (2 : Int32)), .val (.ref b35), .unset, .unset, .unset, .unset, .unset] []))
    refine own_go (fun t_ k => XS.iload X38.here hx rfl (hb hby at_26) rfl k) ?_
    show WP p e below _ (T38.setTop (mkF m 28 #[.val (.long q1), .second, .val (.long q2), .second, .val (.long q3), .second, .val (.int p4), .val (.int p5), .val (.int (2 : Int32)), .val (.ref b35), .unset, .unset, .unset, .unset, .unset] [(.int (2 : Int32))]))
    refine own_go (fun t_ k => XS.iconst X38.here hx rfl (hb hby at_28) k) ?_
    show WP p e below _ (T38.setTop (mkF m 29 #[.val (.long q1), .second, .val (.long q2), .second, .val (.long q3), .second, .val (.int p4), .val (.int p5), .val (.int (2 : Int32)), .val (.ref b35), .unset, .unset, .unset, .unset, .unset] [(.int (1 : Int32)), (.int (2 : Int32))]))
    have hc29_39 : ((1 : Int32) < (2 : Int32)) := by decide
    refine own_go (fun t_ k => XS.icmpNo X38.here hx rfl (hb hby at_29) rfl (tlt hc29_39).2.2.2 k) ?_
    show WP p e below _ (T38.setTop (mkF m 32 #[.val (.long q1), .second, .val (.long q2), .second, .val (.long q3), .second, .val (.int p4), .val (.int p5), .val (.int (2 : Int32)), .val (.ref b35), .unset, .unset, .unset, .unset, .unset] []))
    refine own_go (fun t_ k => XS.aload X38.here hx rfl (hb hby at_32) rfl rfl k) ?_
    show WP p e below _ (T38.setTop (mkF m 34 #[.val (.long q1), .second, .val (.long q2), .second, .val (.long q3), .second, .val (.int p4), .val (.int p5), .val (.int (2 : Int32)), .val (.ref b35), .unset, .unset, .unset, .unset, .unset] [(.ref b35)]))
    refine own_go (fun t_ k => XS.lloadN X38.here hx rfl (hb hby at_34) rfl k) ?_
    show WP p e below _ (T38.setTop (mkF m 35 #[.val (.long q1), .second, .val (.long q2), .second, .val (.long q3), .second, .val (.int p4), .val (.int p5), .val (.int (2 : Int32)), .val (.ref b35), .unset, .unset, .unset, .unset, .unset] [(.long q2), (.ref b35)]))
    obtain ⟨cq40, kq40, q40a, q40b, q40c⟩ := isOf (T := T38) hZ rfl P38.1
    obtain ⟨_, _, ⟨T40, L40, k40, n40⟩, -, X40, ⟨Lc40, hQ40, l40, y40, z40⟩, st40⟩ := X38.virtualBack hx (y := (⟨"com/example/vestry/vestry/Longs", "add", "(J)V"⟩ : MethodName)) (z := (⟨"com/example/vestry/vestry/Longs", "add", "(J)V"⟩ : MethodName)) hown (mvT hZ (hw _ (List.mem_of_getElem? (i := 17) rfl))) (mvT hZ (hw _ (List.mem_of_getElem? (i := 18) rfl))) (notFace_of_selects (args := #[]) (mvT hZ (hw _ (List.mem_of_getElem? (i := 20) rfl)))) (mvT hZ (hw _ (List.mem_of_getElem? (i := 20) rfl))) (mvT hZ (hw _ (List.mem_of_getElem? (i := 19) rfl))) (by decide) (backOf (W := 0) (rm_add l Z a0 hw [] b35 q2 t36 kk36 [q1] T38.heap n0 P38 g_b35 gt36 (by first | decide | (simp only [List.length_append, List.length_cons, List.length_nil]; omega))) hZ (hw _ (List.mem_of_getElem? (i := 21) rfl)) (hw _ (List.mem_of_getElem? (i := 2) rfl)) (by decide) (by decide)) q40a q40c (g := (mkF m 35 #[.val (.long q1), .second, .val (.long q2), .second, .val (.long q3), .second, .val (.int p4), .val (.int p5), .val (.int (2 : Int32)), .val (.ref b35), .unset, .unset, .unset, .unset, .unset] [(.long q2), (.ref b35)])) rfl (by rw [hml]; rfl) (Steps.refl _) (argsL := [(.long q2)]) (rest := []) (lenOf pd_5 rfl) rfl (by show 2 * 0 + _ ≤ _; exact Nat.le_of_eq rfl) (hb hby at_35) (fun _ _ => ⟨rfl, rfl, (by decide : 2 + 0 ≤ _), (by decide : 1026 + 0 ≤ _)⟩)
    dsimp only [Pt.U, Pt.locs, Pt.cells, Pt.slots] at X40 l40 y40 z40 st40 hQ40
    subst l40 y40 z40
    obtain ⟨rfl, N40q, K40c, P40⟩ := hQ40
    have N40 := Fr.app N38 N40q
    replace X40 : Stand p l e room_1 s m _ below meth c T40 _ 2 1026 := X40
    refine own_go (fun t_ k => st40.trans k) ?_
    have K40 : Keep h0 T40.heap [] := K38.trans K40c (allS (Or.inr sz_b35) (allS (Or.inr szt36) all0))
    replace P40 : LG Z T40.heap b35 t36 kk36 [q1, q2] := P40
    show WP p e below _ (T40.setTop (mkF m 38 #[.val (.long q1), .second, .val (.long q2), .second, .val (.long q3), .second, .val (.int p4), .val (.int p5), .val (.int (2 : Int32)), .val (.ref b35), .unset, .unset, .unset, .unset, .unset] []))
    refine own_go (fun t_ k => XS.iload X40.here hx rfl (hb hby at_38) rfl k) ?_
    show WP p e below _ (T40.setTop (mkF m 40 #[.val (.long q1), .second, .val (.long q2), .second, .val (.long q3), .second, .val (.int p4), .val (.int p5), .val (.int (2 : Int32)), .val (.ref b35), .unset, .unset, .unset, .unset, .unset] [(.int (2 : Int32))]))
    refine own_go (fun t_ k => XS.iconst X40.here hx rfl (hb hby at_40) k) ?_
    show WP p e below _ (T40.setTop (mkF m 41 #[.val (.long q1), .second, .val (.long q2), .second, .val (.long q3), .second, .val (.int p4), .val (.int p5), .val (.int (2 : Int32)), .val (.ref b35), .unset, .unset, .unset, .unset, .unset] [(.int (2 : Int32)), (.int (2 : Int32))]))
    have hc41_41 : ¬ ((2 : Int32) < (2 : Int32)) := by decide
    refine own_go (fun t_ k => XS.icmpYes X40.here hx rfl (pc0 := 41) (pc' := 51) rfl (hb hby at_41) rfl (flt hc41_41).2.2.2 (by decide) (by decide) k) ?_
    show WP p e below _ (T40.setTop (mkF m 51 #[.val (.long q1), .second, .val (.long q2), .second, .val (.long q3), .second, .val (.int p4), .val (.int p5), .val (.int (2 : Int32)), .val (.ref b35), .unset, .unset, .unset, .unset, .unset] []))
    refine own_go (fun t_ k => XS.iload X40.here hx rfl (hb hby at_51) rfl k) ?_
    show WP p e below _ (T40.setTop (mkF m 53 #[.val (.long q1), .second, .val (.long q2), .second, .val (.long q3), .second, .val (.int p4), .val (.int p5), .val (.int (2 : Int32)), .val (.ref b35), .unset, .unset, .unset, .unset, .unset] [(.int (2 : Int32))]))
    have hc53_42 : ¬ ((2 : Int32) = (0 : Int32)) := by decide
    refine own_go (fun t_ k => XS.ifYes X40.here hx rfl (pc0 := 53) (pc' := 70) rfl (hb hby at_53) rfl ((if0 _ _).trans (feq hc53_42).2) (by decide) (by decide) k) ?_
    show WP p e below _ (T40.setTop (mkF m 70 #[.val (.long q1), .second, .val (.long q2), .second, .val (.long q3), .second, .val (.int p4), .val (.int p5), .val (.int (2 : Int32)), .val (.ref b35), .unset, .unset, .unset, .unset, .unset] []))
    refine own_go (fun t_ k => XS.iload X40.here hx rfl (hb hby at_70) rfl k) ?_
    show WP p e below _ (T40.setTop (mkF m 72 #[.val (.long q1), .second, .val (.long q2), .second, .val (.long q3), .second, .val (.int p4), .val (.int p5), .val (.int (2 : Int32)), .val (.ref b35), .unset, .unset, .unset, .unset, .unset] [(.int p5)]))
    refine own_go (fun t_ k => X40.ldcInt hx hown (mvT hZ (hw _ (List.mem_of_getElem? (i := 22) rfl))) (g := (mkF m 72 #[.val (.long q1), .second, .val (.long q2), .second, .val (.long q3), .second, .val (.int p4), .val (.int p5), .val (.int (2 : Int32)), .val (.ref b35), .unset, .unset, .unset, .unset, .unset] [(.int p5)])) rfl (hb hby at_72) _ k) ?_
    show WP p e below _ (T40.setTop (mkF m 74 #[.val (.long q1), .second, .val (.long q2), .second, .val (.long q3), .second, .val (.int p4), .val (.int p5), .val (.int (2 : Int32)), .val (.ref b35), .unset, .unset, .unset, .unset, .unset] [(.int (2147483647 : Int32)), (.int p5)]))
    refine own_go (fun t_ k => XS.iand X40.here hx rfl (hb hby at_74) rfl k) ?_
    show WP p e below _ (T40.setTop (mkF m 75 #[.val (.long q1), .second, .val (.long q2), .second, .val (.long q3), .second, .val (.int p4), .val (.int p5), .val (.int (2 : Int32)), .val (.ref b35), .unset, .unset, .unset, .unset, .unset] [(.int (p5 &&& (2147483647 : Int32)))]))
    refine own_go (fun t_ k => XS.iload X40.here hx rfl (hb hby at_75) rfl k) ?_
    show WP p e below _ (T40.setTop (mkF m 77 #[.val (.long q1), .second, .val (.long q2), .second, .val (.long q3), .second, .val (.int p4), .val (.int p5), .val (.int (2 : Int32)), .val (.ref b35), .unset, .unset, .unset, .unset, .unset] [(.int (2 : Int32)), (.int (p5 &&& (2147483647 : Int32)))]))
    refine own_go (fun t_ k => iremM X40 hx rfl (hb hby at_77) rfl (by decide) k) ?_
    show WP p e below _ (T40.setTop (mkF m 78 #[.val (.long q1), .second, .val (.long q2), .second, .val (.long q3), .second, .val (.int p4), .val (.int p5), .val (.int (2 : Int32)), .val (.ref b35), .unset, .unset, .unset, .unset, .unset] [(.int ((p5 &&& (2147483647 : Int32)) % (2 : Int32)))]))
    refine own_go (fun t_ k => XS.istore X40.here hx rfl (hb hby at_78) rfl (l' := #[.val (.long q1), .second, .val (.long q2), .second, .val (.long q3), .second, .val (.int p4), .val (.int p5), .val (.int (2 : Int32)), .val (.ref b35), .val (.int ((p5 &&& (2147483647 : Int32)) % (2 : Int32))), .unset, .unset, .unset, .unset]) rfl k) ?_
    show WP p e below _ (T40.setTop (mkF m 80 #[.val (.long q1), .second, .val (.long q2), .second, .val (.long q3), .second, .val (.int p4), .val (.int p5), .val (.int (2 : Int32)), .val (.ref b35), .val (.int ((p5 &&& (2147483647 : Int32)) % (2 : Int32))), .unset, .unset, .unset, .unset] []))
    generalize he43 : ((p5 &&& (2147483647 : Int32)) % (2 : Int32)) = vi43
    show WP p e below _ (T40.setTop (mkF m 80 #[.val (.long q1), .second, .val (.long q2), .second, .val (.long q3), .second, .val (.int p4), .val (.int p5), .val (.int (2 : Int32)), .val (.ref b35), .val (.int vi43), .unset, .unset, .unset, .unset] []))
    refine own_go (fun t_ k => XS.aload X40.here hx rfl (hb hby at_80) rfl rfl k) ?_
    show WP p e below _ (T40.setTop (mkF m 82 #[.val (.long q1), .second, .val (.long q2), .second, .val (.long q3), .second, .val (.int p4), .val (.int p5), .val (.int (2 : Int32)), .val (.ref b35), .val (.int vi43), .unset, .unset, .unset, .unset] [(.ref b35)]))
    refine own_go (fun t_ k => XS.iload X40.here hx rfl (hb hby at_82) rfl k) ?_
    show WP p e below _ (T40.setTop (mkF m 84 #[.val (.long q1), .second, .val (.long q2), .second, .val (.long q3), .second, .val (.int p4), .val (.int p5), .val (.int (2 : Int32)), .val (.ref b35), .val (.int vi43), .unset, .unset, .unset, .unset] [(.int vi43), (.ref b35)]))
    obtain ⟨cq44, kq44, q44a, q44b, q44c⟩ := isOf (T := T40) hZ rfl P40.1
    obtain ⟨_, _, ⟨T44, L44, k44, n44⟩, -, X44, ⟨Lc44, hQ44, l44, y44, z44⟩, st44⟩ := X40.virtualBack hx (y := (⟨"com/example/vestry/vestry/Longs", "get", "(I)J"⟩ : MethodName)) (z := (⟨"com/example/vestry/vestry/Longs", "get", "(I)J"⟩ : MethodName)) hown (mvT hZ (hw _ (List.mem_of_getElem? (i := 23) rfl))) (mvT hZ (hw _ (List.mem_of_getElem? (i := 24) rfl))) (notFace_of_selects (args := #[]) (mvT hZ (hw _ (List.mem_of_getElem? (i := 26) rfl)))) (mvT hZ (hw _ (List.mem_of_getElem? (i := 26) rfl))) (mvT hZ (hw _ (List.mem_of_getElem? (i := 25) rfl))) (by decide) (backOf (W := 0) (rm_get l Z a0 hw [] b35 vi43 t36 kk36 [q1, q2] T40.heap n0 P40 (by first | decide | (simp only [List.length_append, List.length_cons, List.length_nil]; omega)) (own_rem 2 2 rfl (by decide) (by decide) he43).1 (own_rem 2 2 rfl (by decide) (by decide) he43).2.1) hZ (hw _ (List.mem_of_getElem? (i := 27) rfl)) (hw _ (List.mem_of_getElem? (i := 2) rfl)) (by decide) (by decide)) q44a q44c (g := (mkF m 84 #[.val (.long q1), .second, .val (.long q2), .second, .val (.long q3), .second, .val (.int p4), .val (.int p5), .val (.int (2 : Int32)), .val (.ref b35), .val (.int vi43), .unset, .unset, .unset, .unset] [(.int vi43), (.ref b35)])) rfl (by rw [hml]; rfl) (Steps.refl _) (argsL := [(.int vi43)]) (rest := []) (lenOf pd_6 rfl) rfl (by show 2 * 0 + _ ≤ _; exact Nat.le_of_eq rfl) (hb hby at_84) (fun _ _ => ⟨rfl, rfl, (by decide : 2 + 0 ≤ _), (by decide : 1026 + 0 ≤ _)⟩)
    dsimp only [Pt.U, Pt.locs, Pt.cells, Pt.slots] at X44 l44 y44 z44 st44 hQ44
    subst l44 y44 z44
    obtain ⟨rfl, N44q, e44⟩ := hQ44
    have N44 := Fr.app N40 N44q
    replace X44 : Stand p l e room_1 s m _ below meth c T44 _ 2 1026 := X44
    refine own_go (fun t_ k => st44.trans k) ?_
    show WP p e below _ (T44.setTop (mkF m 87 #[.val (.long q1), .second, .val (.long q2), .second, .val (.long q3), .second, .val (.int p4), .val (.int p5), .val (.int (2 : Int32)), .val (.ref b35), .val (.int vi43), .unset, .unset, .unset, .unset] [(.long (List.getD [q1, q2] vi43.toNatClampNeg 0))]))
    generalize he45 : (List.getD [q1, q2] vi43.toNatClampNeg 0) = vj45
    show WP p e below _ (T44.setTop (mkF m 87 #[.val (.long q1), .second, .val (.long q2), .second, .val (.long q3), .second, .val (.int p4), .val (.int p5), .val (.int (2 : Int32)), .val (.ref b35), .val (.int vi43), .unset, .unset, .unset, .unset] [(.long vj45)]))
    refine own_go (fun t_ k => XS.lstore X44.here hx rfl (hb hby at_87) rfl (l' := #[.val (.long q1), .second, .val (.long q2), .second, .val (.long q3), .second, .val (.int p4), .val (.int p5), .val (.int (2 : Int32)), .val (.ref b35), .val (.int vi43), .val (.long vj45), .second, .unset, .unset]) rfl k) ?_
    show WP p e below _ (T44.setTop (mkF m 89 #[.val (.long q1), .second, .val (.long q2), .second, .val (.long q3), .second, .val (.int p4), .val (.int p5), .val (.int (2 : Int32)), .val (.ref b35), .val (.int vi43), .val (.long vj45), .second, .unset, .unset] []))
    refine own_go (fun t_ k => XS.aload X44.here hx rfl (hb hby at_89) rfl rfl k) ?_
    show WP p e below _ (T44.setTop (mkF m 91 #[.val (.long q1), .second, .val (.long q2), .second, .val (.long q3), .second, .val (.int p4), .val (.int p5), .val (.int (2 : Int32)), .val (.ref b35), .val (.int vi43), .val (.long vj45), .second, .unset, .unset] [(.ref b35)]))
    refine own_go (fun t_ k => XS.iload X44.here hx rfl (hb hby at_91) rfl k) ?_
    show WP p e below _ (T44.setTop (mkF m 93 #[.val (.long q1), .second, .val (.long q2), .second, .val (.long q3), .second, .val (.int p4), .val (.int p5), .val (.int (2 : Int32)), .val (.ref b35), .val (.int vi43), .val (.long vj45), .second, .unset, .unset] [(.int (2 : Int32)), (.ref b35)]))
    refine own_go (fun t_ k => XS.iconst X44.here hx rfl (hb hby at_93) k) ?_
    show WP p e below _ (T44.setTop (mkF m 94 #[.val (.long q1), .second, .val (.long q2), .second, .val (.long q3), .second, .val (.int p4), .val (.int p5), .val (.int (2 : Int32)), .val (.ref b35), .val (.int vi43), .val (.long vj45), .second, .unset, .unset] [(.int (1 : Int32)), (.int (2 : Int32)), (.ref b35)]))
    refine own_go (fun t_ k => XS.isub X44.here hx rfl (hb hby at_94) rfl k) ?_
    show WP p e below _ (T44.setTop (mkF m 95 #[.val (.long q1), .second, .val (.long q2), .second, .val (.long q3), .second, .val (.int p4), .val (.int p5), .val (.int (2 : Int32)), .val (.ref b35), .val (.int vi43), .val (.long vj45), .second, .unset, .unset] [(.int (1 : Int32)), (.ref b35)]))
    obtain ⟨cq46, kq46, q46a, q46b, q46c⟩ := isOf (T := T44) hZ e44 P40.1
    obtain ⟨_, _, ⟨T46, L46, k46, n46⟩, -, X46, ⟨Lc46, hQ46, l46, y46, z46⟩, st46⟩ := X44.virtualBack hx (y := (⟨"com/example/vestry/vestry/Longs", "get", "(I)J"⟩ : MethodName)) (z := (⟨"com/example/vestry/vestry/Longs", "get", "(I)J"⟩ : MethodName)) hown (mvT hZ (hw _ (List.mem_of_getElem? (i := 23) rfl))) (mvT hZ (hw _ (List.mem_of_getElem? (i := 24) rfl))) (notFace_of_selects (args := #[]) (mvT hZ (hw _ (List.mem_of_getElem? (i := 26) rfl)))) (mvT hZ (hw _ (List.mem_of_getElem? (i := 26) rfl))) (mvT hZ (hw _ (List.mem_of_getElem? (i := 25) rfl))) (by decide) (backOf (W := 0) (rm_get l Z a0 hw [] b35 (1 : Int32) t36 kk36 [q1, q2] T40.heap n0 P40 (by first | decide | (simp only [List.length_append, List.length_cons, List.length_nil]; omega)) (by decide) (by show (1 : Int32) < Int32.ofNat 2; decide)) hZ (hw _ (List.mem_of_getElem? (i := 27) rfl)) (hw _ (List.mem_of_getElem? (i := 2) rfl)) (by decide) (by decide)) q46a q46c (g := (mkF m 95 #[.val (.long q1), .second, .val (.long q2), .second, .val (.long q3), .second, .val (.int p4), .val (.int p5), .val (.int (2 : Int32)), .val (.ref b35), .val (.int vi43), .val (.long vj45), .second, .unset, .unset] [(.int (1 : Int32)), (.ref b35)])) rfl (by rw [hml]; rfl) (Steps.refl _) (argsL := [(.int (1 : Int32))]) (rest := []) (lenOf pd_6 rfl) rfl (by show 2 * 0 + _ ≤ _; exact Nat.le_of_eq rfl) (hb hby at_95) (fun _ _ => ⟨rfl, e44, (by decide : 2 + 0 ≤ _), (by decide : 1026 + 0 ≤ _)⟩)
    dsimp only [Pt.U, Pt.locs, Pt.cells, Pt.slots] at X46 l46 y46 z46 st46 hQ46
    subst l46 y46 z46
    obtain ⟨rfl, N46q, e46⟩ := hQ46
    have N46 := Fr.app N44 N46q
    replace X46 : Stand p l e room_1 s m _ below meth c T46 _ 2 1026 := X46
    refine own_go (fun t_ k => st46.trans k) ?_
    show WP p e below _ (T46.setTop (mkF m 98 #[.val (.long q1), .second, .val (.long q2), .second, .val (.long q3), .second, .val (.int p4), .val (.int p5), .val (.int (2 : Int32)), .val (.ref b35), .val (.int vi43), .val (.long vj45), .second, .unset, .unset] [(.long (List.getD [q1, q2] (1 : Int32).toNatClampNeg 0))]))
    generalize he47 : (List.getD [q1, q2] (1 : Int32).toNatClampNeg 0) = vj47
    show WP p e below _ (T46.setTop (mkF m 98 #[.val (.long q1), .second, .val (.long q2), .second, .val (.long q3), .second, .val (.int p4), .val (.int p5), .val (.int (2 : Int32)), .val (.ref b35), .val (.int vi43), .val (.long vj45), .second, .unset, .unset] [(.long vj47)]))
    refine own_go (fun t_ k => XS.lstore X46.here hx rfl (hb hby at_98) rfl (l' := #[.val (.long q1), .second, .val (.long q2), .second, .val (.long q3), .second, .val (.int p4), .val (.int p5), .val (.int (2 : Int32)), .val (.ref b35), .val (.int vi43), .val (.long vj45), .second, .val (.long vj47), .second]) rfl k) ?_
    show WP p e below _ (T46.setTop (mkF m 100 #[.val (.long q1), .second, .val (.long q2), .second, .val (.long q3), .second, .val (.int p4), .val (.int p5), .val (.int (2 : Int32)), .val (.ref b35), .val (.int vi43), .val (.long vj45), .second, .val (.long vj47), .second] []))
    refine own_go (fun t_ k => XS.aload X46.here hx rfl (hb hby at_100) rfl rfl k) ?_
    show WP p e below _ (T46.setTop (mkF m 102 #[.val (.long q1), .second, .val (.long q2), .second, .val (.long q3), .second, .val (.int p4), .val (.int p5), .val (.int (2 : Int32)), .val (.ref b35), .val (.int vi43), .val (.long vj45), .second, .val (.long vj47), .second] [(.ref b35)]))
    obtain ⟨cq48, kq48, q48a, q48b, q48c⟩ := isOf (T := T46) hZ e46 P40.1
    obtain ⟨_, _, ⟨T48, L48, k48, n48⟩, -, X48, ⟨Lc48, hQ48, l48, y48, z48⟩, st48⟩ := X46.virtualBack hx (y := (⟨"com/example/vestry/vestry/Longs", "size", "()I"⟩ : MethodName)) (z := (⟨"com/example/vestry/vestry/Longs", "size", "()I"⟩ : MethodName)) hown (mvT hZ (hw _ (List.mem_of_getElem? (i := 36) rfl))) (mvT hZ (hw _ (List.mem_of_getElem? (i := 37) rfl))) (notFace_of_selects (args := #[]) (mvT hZ (hw _ (List.mem_of_getElem? (i := 39) rfl)))) (mvT hZ (hw _ (List.mem_of_getElem? (i := 39) rfl))) (mvT hZ (hw _ (List.mem_of_getElem? (i := 38) rfl))) (by decide) (backOf (W := 0) (rm_size l Z a0 hw [] b35 t36 kk36 [q1, q2] T40.heap n0 P40) hZ (hw _ (List.mem_of_getElem? (i := 40) rfl)) (hw _ (List.mem_of_getElem? (i := 2) rfl)) (by decide) (by decide)) q48a q48c (g := (mkF m 102 #[.val (.long q1), .second, .val (.long q2), .second, .val (.long q3), .second, .val (.int p4), .val (.int p5), .val (.int (2 : Int32)), .val (.ref b35), .val (.int vi43), .val (.long vj45), .second, .val (.long vj47), .second] [(.ref b35)])) rfl (by rw [hml]; rfl) (Steps.refl _) (argsL := []) (rest := []) (lenOf pd_4 rfl) rfl (by show 2 * 0 + _ ≤ _; exact Nat.le_of_eq rfl) (hb hby at_102) (fun _ _ => ⟨rfl, e46, (by decide : 2 + 0 ≤ _), (by decide : 1026 + 0 ≤ _)⟩)
    dsimp only [Pt.U, Pt.locs, Pt.cells, Pt.slots] at X48 l48 y48 z48 st48 hQ48
    subst l48 y48 z48
    obtain ⟨rfl, N48q, e48⟩ := hQ48
    have N48 := Fr.app N46 N48q
    replace X48 : Stand p l e room_1 s m _ below meth c T48 _ 2 1026 := X48
    refine own_go (fun t_ k => st48.trans k) ?_
    show WP p e below _ (T48.setTop (mkF m 105 #[.val (.long q1), .second, .val (.long q2), .second, .val (.long q3), .second, .val (.int p4), .val (.int p5), .val (.int (2 : Int32)), .val (.ref b35), .val (.int vi43), .val (.long vj45), .second, .val (.long vj47), .second] [(.int (Int32.ofNat (List.length [q1, q2])))]))
    generalize he49 : (Int32.ofNat (List.length [q1, q2])) = vi49
    show WP p e below _ (T48.setTop (mkF m 105 #[.val (.long q1), .second, .val (.long q2), .second, .val (.long q3), .second, .val (.int p4), .val (.int p5), .val (.int (2 : Int32)), .val (.ref b35), .val (.int vi43), .val (.long vj45), .second, .val (.long vj47), .second] [(.int vi49)]))
    refine own_go (fun t_ k => XS.iload X48.here hx rfl (hb hby at_105) rfl k) ?_
    show WP p e below _ (T48.setTop (mkF m 107 #[.val (.long q1), .second, .val (.long q2), .second, .val (.long q3), .second, .val (.int p4), .val (.int p5), .val (.int (2 : Int32)), .val (.ref b35), .val (.int vi43), .val (.long vj45), .second, .val (.long vj47), .second] [(.int (2 : Int32)), (.int vi49)]))
    have J52 : ∀ (T52 : State) (ls52 : List Loc) (X52 : Stand p l e room_1 s m #[(.long q1), (.long q2), (.long q3), (.int p4), (.int p5)] below meth c T52 ls52 2 1026) (N52 : Fr n0 ls52) (e52 : T52.heap = T40.heap) (z51_S0 : Int32) (hz51_S0 : z51_S0 = (if vi49 = (2 : Int32) then (if vj45 = (f9 vi43 q1 q2 q3) then (if vj47 = (f9 (1 : Int32) q1 q2 q3) then (1 : Int32) else (0 : Int32)) else (0 : Int32)) else (0 : Int32))), WP p e below (GG (Q0 n0) s room_1.cells room_1.slots) (T52.setTop (mkF m 147 #[.val (.long q1), .second, .val (.long q2), .second, .val (.long q3), .second, .val (.int p4), .val (.int p5), .val (.int (2 : Int32)), .val (.ref b35), .val (.int vi43), .val (.long vj45), .second, .val (.long vj47), .second] [(.int z51_S0)])) := by
      intro T52 ls52 X52 N52 e52 z51_S0 hz51_S0
      show WP p e below _ (T52.setTop (mkF m 147 #[.val (.long q1), .second, .val (.long q2), .second, .val (.long q3), .second, .val (.int p4), .val (.int p5), .val (.int (2 : Int32)), .val (.ref b35), .val (.int vi43), .val (.long vj45), .second, .val (.long vj47), .second] [(.int z51_S0)]))
      exact own_retZ X52 hx Bd.notSynchronized Bd.returns (hb hby at_147) (by rw [hz51_S0]; (repeat' split); all_goals first | exact Or.inl rfl | exact Or.inr rfl) (show Q0 n0 _ _ _ from ⟨congrArg (fun z => some (Value.int z)) (own_law_3 (q1 := q1) (q2 := q2) (q3 := q3) (p4 := p4) (p5 := p5) he1 he43 he45 he47 he49 hz51_S0), N52⟩) (by decide) (by decide)
    by_cases hc107_50 : vi49 = (2 : Int32)
    · refine own_go (fun t_ k => XS.icmpNo X48.here hx rfl (hb hby at_107) rfl (teq hc107_50).2 k) ?_
      show WP p e below _ (T48.setTop (mkF m 110 #[.val (.long q1), .second, .val (.long q2), .second, .val (.long q3), .second, .val (.int p4), .val (.int p5), .val (.int (2 : Int32)), .val (.ref b35), .val (.int vi43), .val (.long vj45), .second, .val (.long vj47), .second] []))
      refine own_go (fun t_ k => XS.lload X48.here hx rfl (hb hby at_110) rfl k) ?_
      show WP p e below _ (T48.setTop (mkF m 112 #[.val (.long q1), .second, .val (.long q2), .second, .val (.long q3), .second, .val (.int p4), .val (.int p5), .val (.int (2 : Int32)), .val (.ref b35), .val (.int vi43), .val (.long vj45), .second, .val (.long vj47), .second] [(.long vj45)]))
      refine own_go (fun t_ k => XS.iload X48.here hx rfl (hb hby at_112) rfl k) ?_
      show WP p e below _ (T48.setTop (mkF m 114 #[.val (.long q1), .second, .val (.long q2), .second, .val (.long q3), .second, .val (.int p4), .val (.int p5), .val (.int (2 : Int32)), .val (.ref b35), .val (.int vi43), .val (.long vj45), .second, .val (.long vj47), .second] [(.int vi43), (.long vj45)]))
      refine own_go (fun t_ k => XS.lloadN X48.here hx rfl (hb hby at_114) rfl k) ?_
      show WP p e below _ (T48.setTop (mkF m 115 #[.val (.long q1), .second, .val (.long q2), .second, .val (.long q3), .second, .val (.int p4), .val (.int p5), .val (.int (2 : Int32)), .val (.ref b35), .val (.int vi43), .val (.long vj45), .second, .val (.long vj47), .second] [(.long q1), (.int vi43), (.long vj45)]))
      refine own_go (fun t_ k => XS.lloadN X48.here hx rfl (hb hby at_115) rfl k) ?_
      show WP p e below _ (T48.setTop (mkF m 116 #[.val (.long q1), .second, .val (.long q2), .second, .val (.long q3), .second, .val (.int p4), .val (.int p5), .val (.int (2 : Int32)), .val (.ref b35), .val (.int vi43), .val (.long vj45), .second, .val (.long vj47), .second] [(.long q2), (.long q1), (.int vi43), (.long vj45)]))
      refine own_go (fun t_ k => XS.lload X48.here hx rfl (hb hby at_116) rfl k) ?_
      show WP p e below _ (T48.setTop (mkF m 118 #[.val (.long q1), .second, .val (.long q2), .second, .val (.long q3), .second, .val (.int p4), .val (.int p5), .val (.int (2 : Int32)), .val (.ref b35), .val (.int vi43), .val (.long vj45), .second, .val (.long vj47), .second] [(.long q3), (.long q2), (.long q1), (.int vi43), (.long vj45)]))
      obtain ⟨_, _, ⟨T53, L53, k53, n53⟩, -, X53, ⟨Lc53, hQ53, l53, y53, z53⟩, st53⟩ := Jvm.LawKit.callS X48 hx (y := (⟨"com/example/vestry/vestry/LongsGetPinLaw", "nth", "(IJJJ)J"⟩ : MethodName)) hown (mvT hZ (hw _ (List.mem_of_getElem? (i := 41) rfl))) (mvT hZ (hw _ (List.mem_of_getElem? (i := 42) rfl))) (mvT hZ (hw _ (List.mem_of_getElem? (i := 43) rfl))) (mvT hZ (hw _ (List.mem_of_getElem? (i := 44) rfl))) (by decide) (backOf (W := 2) (rm9 l Z a0 hw [] vi43 q1 q2 q3 T40.heap n0) hZ (hw _ (List.mem_of_getElem? (i := 44) rfl)) (hw _ (List.mem_of_getElem? (i := 43) rfl)) (by decide) (by decide)) (g := (mkF m 118 #[.val (.long q1), .second, .val (.long q2), .second, .val (.long q3), .second, .val (.int p4), .val (.int p5), .val (.int (2 : Int32)), .val (.ref b35), .val (.int vi43), .val (.long vj45), .second, .val (.long vj47), .second] [(.long q3), (.long q2), (.long q1), (.int vi43), (.long vj45)])) rfl (by rw [hml]; rfl) (argsL := [(.int vi43), (.long q1), (.long q2), (.long q3)]) (rest := [(.long vj45)]) (lenOf pd_7 rfl) rfl (by show 2 * 0 + _ ≤ _; exact Nat.le_of_eq rfl) (hb hby at_118) (fun _ _ => ⟨rfl, e48, (by decide : 2 + 0 ≤ _), (by decide : 1026 + 0 ≤ _)⟩)
      dsimp only [Pt.U, Pt.locs, Pt.cells, Pt.slots] at X53 l53 y53 z53 st53 hQ53
      subst l53 y53 z53
      obtain ⟨rfl, N53q, e53⟩ := hQ53
      have N53 := Fr.app N48 N53q
      replace X53 : Stand p l e room_1 s m _ below meth c T53 _ 2 1026 := X53
      refine own_go st53 ?_
      show WP p e below _ (T53.setTop (mkF m 121 #[.val (.long q1), .second, .val (.long q2), .second, .val (.long q3), .second, .val (.int p4), .val (.int p5), .val (.int (2 : Int32)), .val (.ref b35), .val (.int vi43), .val (.long vj45), .second, .val (.long vj47), .second] [(.long (f9 vi43 q1 q2 q3)), (.long vj45)]))
      refine own_go (fun t_ k => XS.lcmp X53.here hx rfl (hb hby at_121) rfl k) ?_
      show WP p e below _ (T53.setTop (mkF m 122 #[.val (.long q1), .second, .val (.long q2), .second, .val (.long q3), .second, .val (.int p4), .val (.int p5), .val (.int (2 : Int32)), .val (.ref b35), .val (.int vi43), .val (.long vj45), .second, .val (.long vj47), .second] [(.int (lcmpW vj45 (f9 vi43 q1 q2 q3)))]))
      by_cases hc122_54 : vj45 = (f9 vi43 q1 q2 q3)
      · refine own_go (fun t_ k => XS.ifNo X53.here hx rfl (hb hby at_122) rfl ((if0 _ _).trans (teq ((lw_eq _ _).mpr hc122_54)).2) k) ?_
        show WP p e below _ (T53.setTop (mkF m 125 #[.val (.long q1), .second, .val (.long q2), .second, .val (.long q3), .second, .val (.int p4), .val (.int p5), .val (.int (2 : Int32)), .val (.ref b35), .val (.int vi43), .val (.long vj45), .second, .val (.long vj47), .second] []))
        refine own_go (fun t_ k => XS.lload X53.here hx rfl (hb hby at_125) rfl k) ?_
        show WP p e below _ (T53.setTop (mkF m 127 #[.val (.long q1), .second, .val (.long q2), .second, .val (.long q3), .second, .val (.int p4), .val (.int p5), .val (.int (2 : Int32)), .val (.ref b35), .val (.int vi43), .val (.long vj45), .second, .val (.long vj47), .second] [(.long vj47)]))
        refine own_go (fun t_ k => XS.iload X53.here hx rfl (hb hby at_127) rfl k) ?_
        show WP p e below _ (T53.setTop (mkF m 129 #[.val (.long q1), .second, .val (.long q2), .second, .val (.long q3), .second, .val (.int p4), .val (.int p5), .val (.int (2 : Int32)), .val (.ref b35), .val (.int vi43), .val (.long vj45), .second, .val (.long vj47), .second] [(.int (2 : Int32)), (.long vj47)]))
        refine own_go (fun t_ k => XS.iconst X53.here hx rfl (hb hby at_129) k) ?_
        show WP p e below _ (T53.setTop (mkF m 130 #[.val (.long q1), .second, .val (.long q2), .second, .val (.long q3), .second, .val (.int p4), .val (.int p5), .val (.int (2 : Int32)), .val (.ref b35), .val (.int vi43), .val (.long vj45), .second, .val (.long vj47), .second] [(.int (1 : Int32)), (.int (2 : Int32)), (.long vj47)]))
        refine own_go (fun t_ k => XS.isub X53.here hx rfl (hb hby at_130) rfl k) ?_
        show WP p e below _ (T53.setTop (mkF m 131 #[.val (.long q1), .second, .val (.long q2), .second, .val (.long q3), .second, .val (.int p4), .val (.int p5), .val (.int (2 : Int32)), .val (.ref b35), .val (.int vi43), .val (.long vj45), .second, .val (.long vj47), .second] [(.int (1 : Int32)), (.long vj47)]))
        refine own_go (fun t_ k => XS.lloadN X53.here hx rfl (hb hby at_131) rfl k) ?_
        show WP p e below _ (T53.setTop (mkF m 132 #[.val (.long q1), .second, .val (.long q2), .second, .val (.long q3), .second, .val (.int p4), .val (.int p5), .val (.int (2 : Int32)), .val (.ref b35), .val (.int vi43), .val (.long vj45), .second, .val (.long vj47), .second] [(.long q1), (.int (1 : Int32)), (.long vj47)]))
        refine own_go (fun t_ k => XS.lloadN X53.here hx rfl (hb hby at_132) rfl k) ?_
        show WP p e below _ (T53.setTop (mkF m 133 #[.val (.long q1), .second, .val (.long q2), .second, .val (.long q3), .second, .val (.int p4), .val (.int p5), .val (.int (2 : Int32)), .val (.ref b35), .val (.int vi43), .val (.long vj45), .second, .val (.long vj47), .second] [(.long q2), (.long q1), (.int (1 : Int32)), (.long vj47)]))
        refine own_go (fun t_ k => XS.lload X53.here hx rfl (hb hby at_133) rfl k) ?_
        show WP p e below _ (T53.setTop (mkF m 135 #[.val (.long q1), .second, .val (.long q2), .second, .val (.long q3), .second, .val (.int p4), .val (.int p5), .val (.int (2 : Int32)), .val (.ref b35), .val (.int vi43), .val (.long vj45), .second, .val (.long vj47), .second] [(.long q3), (.long q2), (.long q1), (.int (1 : Int32)), (.long vj47)]))
        obtain ⟨_, _, ⟨T55, L55, k55, n55⟩, -, X55, ⟨Lc55, hQ55, l55, y55, z55⟩, st55⟩ := Jvm.LawKit.callS X53 hx (y := (⟨"com/example/vestry/vestry/LongsGetPinLaw", "nth", "(IJJJ)J"⟩ : MethodName)) hown (mvT hZ (hw _ (List.mem_of_getElem? (i := 41) rfl))) (mvT hZ (hw _ (List.mem_of_getElem? (i := 42) rfl))) (mvT hZ (hw _ (List.mem_of_getElem? (i := 43) rfl))) (mvT hZ (hw _ (List.mem_of_getElem? (i := 44) rfl))) (by decide) (backOf (W := 2) (rm9 l Z a0 hw [] (1 : Int32) q1 q2 q3 T40.heap n0) hZ (hw _ (List.mem_of_getElem? (i := 44) rfl)) (hw _ (List.mem_of_getElem? (i := 43) rfl)) (by decide) (by decide)) (g := (mkF m 135 #[.val (.long q1), .second, .val (.long q2), .second, .val (.long q3), .second, .val (.int p4), .val (.int p5), .val (.int (2 : Int32)), .val (.ref b35), .val (.int vi43), .val (.long vj45), .second, .val (.long vj47), .second] [(.long q3), (.long q2), (.long q1), (.int (1 : Int32)), (.long vj47)])) rfl (by rw [hml]; rfl) (argsL := [(.int (1 : Int32)), (.long q1), (.long q2), (.long q3)]) (rest := [(.long vj47)]) (lenOf pd_7 rfl) rfl (by show 2 * 0 + _ ≤ _; exact Nat.le_of_eq rfl) (hb hby at_135) (fun _ _ => ⟨rfl, e53, (by decide : 2 + 0 ≤ _), (by decide : 1026 + 0 ≤ _)⟩)
        dsimp only [Pt.U, Pt.locs, Pt.cells, Pt.slots] at X55 l55 y55 z55 st55 hQ55
        subst l55 y55 z55
        obtain ⟨rfl, N55q, e55⟩ := hQ55
        have N55 := Fr.app N53 N55q
        replace X55 : Stand p l e room_1 s m _ below meth c T55 _ 2 1026 := X55
        refine own_go st55 ?_
        show WP p e below _ (T55.setTop (mkF m 138 #[.val (.long q1), .second, .val (.long q2), .second, .val (.long q3), .second, .val (.int p4), .val (.int p5), .val (.int (2 : Int32)), .val (.ref b35), .val (.int vi43), .val (.long vj45), .second, .val (.long vj47), .second] [(.long (f9 (1 : Int32) q1 q2 q3)), (.long vj47)]))
        refine own_go (fun t_ k => XS.lcmp X55.here hx rfl (hb hby at_138) rfl k) ?_
        show WP p e below _ (T55.setTop (mkF m 139 #[.val (.long q1), .second, .val (.long q2), .second, .val (.long q3), .second, .val (.int p4), .val (.int p5), .val (.int (2 : Int32)), .val (.ref b35), .val (.int vi43), .val (.long vj45), .second, .val (.long vj47), .second] [(.int (lcmpW vj47 (f9 (1 : Int32) q1 q2 q3)))]))
        by_cases hc139_56 : vj47 = (f9 (1 : Int32) q1 q2 q3)
        · refine own_go (fun t_ k => XS.ifNo X55.here hx rfl (hb hby at_139) rfl ((if0 _ _).trans (teq ((lw_eq _ _).mpr hc139_56)).2) k) ?_
          show WP p e below _ (T55.setTop (mkF m 142 #[.val (.long q1), .second, .val (.long q2), .second, .val (.long q3), .second, .val (.int p4), .val (.int p5), .val (.int (2 : Int32)), .val (.ref b35), .val (.int vi43), .val (.long vj45), .second, .val (.long vj47), .second] []))
          refine own_go (fun t_ k => XS.iconst X55.here hx rfl (hb hby at_142) k) ?_
          show WP p e below _ (T55.setTop (mkF m 143 #[.val (.long q1), .second, .val (.long q2), .second, .val (.long q3), .second, .val (.int p4), .val (.int p5), .val (.int (2 : Int32)), .val (.ref b35), .val (.int vi43), .val (.long vj45), .second, .val (.long vj47), .second] [(.int (1 : Int32))]))
          refine own_go (fun t_ k => XS.goto X55.here hx rfl (pc0 := 143) (pc' := 147) rfl (hb hby at_143) (by decide) (by decide) k) ?_
          show WP p e below _ (T55.setTop (mkF m 147 #[.val (.long q1), .second, .val (.long q2), .second, .val (.long q3), .second, .val (.int p4), .val (.int p5), .val (.int (2 : Int32)), .val (.ref b35), .val (.int vi43), .val (.long vj45), .second, .val (.long vj47), .second] [(.int (1 : Int32))]))
          exact J52 T55 _ X55 N55 e55 _ (by rw [if_pos hc107_50, if_pos hc122_54, if_pos hc139_56])
        · refine own_go (fun t_ k => XS.ifYes X55.here hx rfl (pc0 := 139) (pc' := 146) rfl (hb hby at_139) rfl ((if0 _ _).trans (feq (mt (lw_eq _ _).mp hc139_56)).2) (by decide) (by decide) k) ?_
          show WP p e below _ (T55.setTop (mkF m 146 #[.val (.long q1), .second, .val (.long q2), .second, .val (.long q3), .second, .val (.int p4), .val (.int p5), .val (.int (2 : Int32)), .val (.ref b35), .val (.int vi43), .val (.long vj45), .second, .val (.long vj47), .second] []))
          refine own_go (fun t_ k => XS.iconst X55.here hx rfl (hb hby at_146) k) ?_
          show WP p e below _ (T55.setTop (mkF m 147 #[.val (.long q1), .second, .val (.long q2), .second, .val (.long q3), .second, .val (.int p4), .val (.int p5), .val (.int (2 : Int32)), .val (.ref b35), .val (.int vi43), .val (.long vj45), .second, .val (.long vj47), .second] [(.int (0 : Int32))]))
          exact J52 T55 _ X55 N55 e55 _ (by rw [if_pos hc107_50, if_pos hc122_54, if_neg hc139_56])
      · refine own_go (fun t_ k => XS.ifYes X53.here hx rfl (pc0 := 122) (pc' := 146) rfl (hb hby at_122) rfl ((if0 _ _).trans (feq (mt (lw_eq _ _).mp hc122_54)).2) (by decide) (by decide) k) ?_
        show WP p e below _ (T53.setTop (mkF m 146 #[.val (.long q1), .second, .val (.long q2), .second, .val (.long q3), .second, .val (.int p4), .val (.int p5), .val (.int (2 : Int32)), .val (.ref b35), .val (.int vi43), .val (.long vj45), .second, .val (.long vj47), .second] []))
        refine own_go (fun t_ k => XS.iconst X53.here hx rfl (hb hby at_146) k) ?_
        show WP p e below _ (T53.setTop (mkF m 147 #[.val (.long q1), .second, .val (.long q2), .second, .val (.long q3), .second, .val (.int p4), .val (.int p5), .val (.int (2 : Int32)), .val (.ref b35), .val (.int vi43), .val (.long vj45), .second, .val (.long vj47), .second] [(.int (0 : Int32))]))
        exact J52 T53 _ X53 N53 e53 _ (by rw [if_pos hc107_50, if_neg hc122_54])
    · refine own_go (fun t_ k => XS.icmpYes X48.here hx rfl (pc0 := 107) (pc' := 146) rfl (hb hby at_107) rfl (feq hc107_50).2 (by decide) (by decide) k) ?_
      show WP p e below _ (T48.setTop (mkF m 146 #[.val (.long q1), .second, .val (.long q2), .second, .val (.long q3), .second, .val (.int p4), .val (.int p5), .val (.int (2 : Int32)), .val (.ref b35), .val (.int vi43), .val (.long vj45), .second, .val (.long vj47), .second] []))
      refine own_go (fun t_ k => XS.iconst X48.here hx rfl (hb hby at_146) k) ?_
      show WP p e below _ (T48.setTop (mkF m 147 #[.val (.long q1), .second, .val (.long q2), .second, .val (.long q3), .second, .val (.int p4), .val (.int p5), .val (.int (2 : Int32)), .val (.ref b35), .val (.int vi43), .val (.long vj45), .second, .val (.long vj47), .second] [(.int (0 : Int32))]))
      exact J52 T48 _ X48 N48 e48 _ (by rw [if_neg hc107_50])
  · subst hs2
    show WP p e below _ (s₁.setTop (mkF m 6 #[.val (.long q1), .second, .val (.long q2), .second, .val (.long q3), .second, .val (.int p4), .val (.int p5), .val (.int (3 : Int32)), .unset, .unset, .unset, .unset, .unset, .unset] []))
    obtain ⟨T57, h57, X57, e57, E57, A57, D57, -, st57⟩ := newO X0 hx hZ hown (hw _ (List.mem_of_getElem? (i := 0) rfl)) (hw _ (List.mem_of_getElem? (i := 1) rfl)) (hw _ (List.mem_of_getElem? (i := 2) rfl)) e0 (g := (mkF m 6 #[.val (.long q1), .second, .val (.long q2), .second, .val (.long q3), .second, .val (.int p4), .val (.int p5), .val (.int (3 : Int32)), .unset, .unset, .unset, .unset, .unset, .unset] [])) rfl (hb hby at_6) (by decide) (by decide)
    obtain ⟨b57, g57⟩ : ∃ z, z = Array.size h0 := ⟨_, rfl⟩
    rw [← g57] at A57 D57 st57
    refine own_go st57 ?_
    have g_b57 : n0 ≤ b57 := Nat.le_trans (Nat.le_trans Z0 (Keep.refl h0 []).1) (Nat.le_of_eq g57.symm)
    have sz_b57 : h0.size ≤ b57 := Nat.le_trans (Keep.refl h0 []).1 (Nat.le_of_eq g57.symm)
    have K57 : Keep h0 h57 [] := (Keep.refl h0 []).ext E57
    have F57_values : Fld Z h57 b57 "com/example/vestry/vestry/Longs" "values" "[J" .null := D57 (Or.inl (hw _ (List.mem_of_getElem? (i := 14) rfl))) (ty := (.array .long)) (by decide)
    have F57_size : Fld Z h57 b57 "com/example/vestry/vestry/Longs" "size" "I" (.int (0 : Int32)) := D57 (Or.inl (hw _ (List.mem_of_getElem? (i := 16) rfl))) (ty := .int) (by decide)
    show WP p e below _ (T57.setTop (mkF m 9 #[.val (.long q1), .second, .val (.long q2), .second, .val (.long q3), .second, .val (.int p4), .val (.int p5), .val (.int (3 : Int32)), .unset, .unset, .unset, .unset, .unset, .unset] [(.ref b57)]))
    refine own_go (fun t_ k => XS.dup X57.here hx rfl (hb hby at_9) rfl rfl k) ?_
    show WP p e below _ (T57.setTop (mkF m 10 #[.val (.long q1), .second, .val (.long q2), .second, .val (.long q3), .second, .val (.int p4), .val (.int p5), .val (.int (3 : Int32)), .unset, .unset, .unset, .unset, .unset, .unset] [(.ref b57), (.ref b57)]))
    obtain ⟨_, _, ⟨T58, L58, k58, n58⟩, -, X58, ⟨Lc58, hQ58, l58, y58, z58⟩, st58⟩ := X57.specialBack hx (y := (⟨"com/example/vestry/vestry/Longs", "<init>", "()V"⟩ : MethodName)) rfl hown (mvT hZ (hw _ (List.mem_of_getElem? (i := 3) rfl))) (mvT hZ (hw _ (List.mem_of_getElem? (i := 4) rfl))) (mvT hZ (hw _ (List.mem_of_getElem? (i := 5) rfl))) (by decide) (backOf (W := 1) (rm_i0 l Z a0 hw [] b57 h57 n0 (Nat.le_trans Z0 K57.1) A57 g_b57 F57_values F57_size) hZ (hw _ (List.mem_of_getElem? (i := 5) rfl)) (hw _ (List.mem_of_getElem? (i := 2) rfl)) (by decide) (by decide)) (g := (mkF m 10 #[.val (.long q1), .second, .val (.long q2), .second, .val (.long q3), .second, .val (.int p4), .val (.int p5), .val (.int (3 : Int32)), .unset, .unset, .unset, .unset, .unset, .unset] [(.ref b57), (.ref b57)])) rfl (by rw [hml]; rfl) (Steps.refl _) (a := b57) (argsL := []) (rest := [(.ref b57)]) (lenOf pd_3 rfl) rfl (by show 2 * 0 + _ ≤ _; exact Nat.le_of_eq rfl) (hb hby at_10) (fun _ _ => ⟨rfl, e57, (by decide : 1 + 1 ≤ _), (by decide : 2 + 1024 ≤ _)⟩)
    dsimp only [Pt.U, Pt.locs, Pt.cells, Pt.slots] at X58 l58 y58 z58 st58 hQ58
    subst l58 y58 z58
    obtain ⟨rfl, N58q, K58c, t58, kk58, gt58, st58', P58⟩ := hQ58
    have N58 := Fr.app N0 N58q
    replace X58 : Stand p l e room_1 s m _ below meth c T58 _ 2 1026 := X58
    refine own_go (fun t_ k => st58.trans k) ?_
    have K58 : Keep h0 T58.heap [] := K57.trans K58c (allS (Or.inr sz_b57) all0)
    have szt58 : h0.size ≤ t58 := Nat.le_trans K57.1 st58'
    show WP p e below _ (T58.setTop (mkF m 13 #[.val (.long q1), .second, .val (.long q2), .second, .val (.long q3), .second, .val (.int p4), .val (.int p5), .val (.int (3 : Int32)), .unset, .unset, .unset, .unset, .unset, .unset] [(.ref b57)]))
    refine own_go (fun t_ k => XS.astore X58.here hx rfl (hb hby at_13) rfl rfl (l' := #[.val (.long q1), .second, .val (.long q2), .second, .val (.long q3), .second, .val (.int p4), .val (.int p5), .val (.int (3 : Int32)), .val (.ref b57), .unset, .unset, .unset, .unset, .unset]) rfl k) ?_
    show WP p e below _ (T58.setTop (mkF m 15 #[.val (.long q1), .second, .val (.long q2), .second, .val (.long q3), .second, .val (.int p4), .val (.int p5), .val (.int (3 : Int32)), .val (.ref b57), .unset, .unset, .unset, .unset, .unset] []))
    refine own_go (fun t_ k => XS.iload X58.here hx rfl (hb hby at_15) rfl k) ?_
    show WP p e below _ (T58.setTop (mkF m 17 #[.val (.long q1), .second, .val (.long q2), .second, .val (.long q3), .second, .val (.int p4), .val (.int p5), .val (.int (3 : Int32)), .val (.ref b57), .unset, .unset, .unset, .unset, .unset] [(.int (3 : Int32))]))
    have hc17_59 : ((0 : Int32) < (3 : Int32)) := by decide
    refine own_go (fun t_ k => XS.ifNo X58.here hx rfl (hb hby at_17) rfl ((if0 _ _).trans (tlt hc17_59).2.2.2) k) ?_
    show WP p e below _ (T58.setTop (mkF m 20 #[.val (.long q1), .second, .val (.long q2), .second, .val (.long q3), .second, .val (.int p4), .val (.int p5), .val (.int (3 : Int32)), .val (.ref b57), .unset, .unset, .unset, .unset, .unset] []))
    refine own_go (fun t_ k => XS.aload X58.here hx rfl (hb hby at_20) rfl rfl k) ?_
    show WP p e below _ (T58.setTop (mkF m 22 #[.val (.long q1), .second, .val (.long q2), .second, .val (.long q3), .second, .val (.int p4), .val (.int p5), .val (.int (3 : Int32)), .val (.ref b57), .unset, .unset, .unset, .unset, .unset] [(.ref b57)]))
    refine own_go (fun t_ k => XS.lloadN X58.here hx rfl (hb hby at_22) rfl k) ?_
    show WP p e below _ (T58.setTop (mkF m 23 #[.val (.long q1), .second, .val (.long q2), .second, .val (.long q3), .second, .val (.int p4), .val (.int p5), .val (.int (3 : Int32)), .val (.ref b57), .unset, .unset, .unset, .unset, .unset] [(.long q1), (.ref b57)]))
    obtain ⟨cq60, kq60, q60a, q60b, q60c⟩ := isOf (T := T58) hZ rfl P58.1
    obtain ⟨_, _, ⟨T60, L60, k60, n60⟩, -, X60, ⟨Lc60, hQ60, l60, y60, z60⟩, st60⟩ := X58.virtualBack hx (y := (⟨"com/example/vestry/vestry/Longs", "add", "(J)V"⟩ : MethodName)) (z := (⟨"com/example/vestry/vestry/Longs", "add", "(J)V"⟩ : MethodName)) hown (mvT hZ (hw _ (List.mem_of_getElem? (i := 17) rfl))) (mvT hZ (hw _ (List.mem_of_getElem? (i := 18) rfl))) (notFace_of_selects (args := #[]) (mvT hZ (hw _ (List.mem_of_getElem? (i := 20) rfl)))) (mvT hZ (hw _ (List.mem_of_getElem? (i := 20) rfl))) (mvT hZ (hw _ (List.mem_of_getElem? (i := 19) rfl))) (by decide) (backOf (W := 0) (rm_add l Z a0 hw [] b57 q1 t58 kk58 ([] : List Int64) T58.heap n0 P58 g_b57 gt58 (by first | decide | (simp only [List.length_append, List.length_cons, List.length_nil]; omega))) hZ (hw _ (List.mem_of_getElem? (i := 21) rfl)) (hw _ (List.mem_of_getElem? (i := 2) rfl)) (by decide) (by decide)) q60a q60c (g := (mkF m 23 #[.val (.long q1), .second, .val (.long q2), .second, .val (.long q3), .second, .val (.int p4), .val (.int p5), .val (.int (3 : Int32)), .val (.ref b57), .unset, .unset, .unset, .unset, .unset] [(.long q1), (.ref b57)])) rfl (by rw [hml]; rfl) (Steps.refl _) (argsL := [(.long q1)]) (rest := []) (lenOf pd_5 rfl) rfl (by show 2 * 0 + _ ≤ _; exact Nat.le_of_eq rfl) (hb hby at_23) (fun _ _ => ⟨rfl, rfl, (by decide : 2 + 0 ≤ _), (by decide : 1026 + 0 ≤ _)⟩)
    dsimp only [Pt.U, Pt.locs, Pt.cells, Pt.slots] at X60 l60 y60 z60 st60 hQ60
    subst l60 y60 z60
    obtain ⟨rfl, N60q, K60c, P60⟩ := hQ60
    have N60 := Fr.app N58 N60q
    replace X60 : Stand p l e room_1 s m _ below meth c T60 _ 2 1026 := X60
    refine own_go (fun t_ k => st60.trans k) ?_
    have K60 : Keep h0 T60.heap [] := K58.trans K60c (allS (Or.inr sz_b57) (allS (Or.inr szt58) all0))
    replace P60 : LG Z T60.heap b57 t58 kk58 [q1] := P60
    show WP p e below _ (T60.setTop (mkF m 26 #[.val (.long q1), .second, .val (.long q2), .second, .val (.long q3), .second, .val (.int p4), .val (.int p5), .val (.int (3 : Int32)), .val (.ref b57), .unset, .unset, .unset, .unset, .unset] []))
    refine own_go (fun t_ k => XS.iload X60.here hx rfl (hb hby at_26) rfl k) ?_
    show WP p e below _ (T60.setTop (mkF m 28 #[.val (.long q1), .second, .val (.long q2), .second, .val (.long q3), .second, .val (.int p4), .val (.int p5), .val (.int (3 : Int32)), .val (.ref b57), .unset, .unset, .unset, .unset, .unset] [(.int (3 : Int32))]))
    refine own_go (fun t_ k => XS.iconst X60.here hx rfl (hb hby at_28) k) ?_
    show WP p e below _ (T60.setTop (mkF m 29 #[.val (.long q1), .second, .val (.long q2), .second, .val (.long q3), .second, .val (.int p4), .val (.int p5), .val (.int (3 : Int32)), .val (.ref b57), .unset, .unset, .unset, .unset, .unset] [(.int (1 : Int32)), (.int (3 : Int32))]))
    have hc29_61 : ((1 : Int32) < (3 : Int32)) := by decide
    refine own_go (fun t_ k => XS.icmpNo X60.here hx rfl (hb hby at_29) rfl (tlt hc29_61).2.2.2 k) ?_
    show WP p e below _ (T60.setTop (mkF m 32 #[.val (.long q1), .second, .val (.long q2), .second, .val (.long q3), .second, .val (.int p4), .val (.int p5), .val (.int (3 : Int32)), .val (.ref b57), .unset, .unset, .unset, .unset, .unset] []))
    refine own_go (fun t_ k => XS.aload X60.here hx rfl (hb hby at_32) rfl rfl k) ?_
    show WP p e below _ (T60.setTop (mkF m 34 #[.val (.long q1), .second, .val (.long q2), .second, .val (.long q3), .second, .val (.int p4), .val (.int p5), .val (.int (3 : Int32)), .val (.ref b57), .unset, .unset, .unset, .unset, .unset] [(.ref b57)]))
    refine own_go (fun t_ k => XS.lloadN X60.here hx rfl (hb hby at_34) rfl k) ?_
    show WP p e below _ (T60.setTop (mkF m 35 #[.val (.long q1), .second, .val (.long q2), .second, .val (.long q3), .second, .val (.int p4), .val (.int p5), .val (.int (3 : Int32)), .val (.ref b57), .unset, .unset, .unset, .unset, .unset] [(.long q2), (.ref b57)]))
    obtain ⟨cq62, kq62, q62a, q62b, q62c⟩ := isOf (T := T60) hZ rfl P60.1
    obtain ⟨_, _, ⟨T62, L62, k62, n62⟩, -, X62, ⟨Lc62, hQ62, l62, y62, z62⟩, st62⟩ := X60.virtualBack hx (y := (⟨"com/example/vestry/vestry/Longs", "add", "(J)V"⟩ : MethodName)) (z := (⟨"com/example/vestry/vestry/Longs", "add", "(J)V"⟩ : MethodName)) hown (mvT hZ (hw _ (List.mem_of_getElem? (i := 17) rfl))) (mvT hZ (hw _ (List.mem_of_getElem? (i := 18) rfl))) (notFace_of_selects (args := #[]) (mvT hZ (hw _ (List.mem_of_getElem? (i := 20) rfl)))) (mvT hZ (hw _ (List.mem_of_getElem? (i := 20) rfl))) (mvT hZ (hw _ (List.mem_of_getElem? (i := 19) rfl))) (by decide) (backOf (W := 0) (rm_add l Z a0 hw [] b57 q2 t58 kk58 [q1] T60.heap n0 P60 g_b57 gt58 (by first | decide | (simp only [List.length_append, List.length_cons, List.length_nil]; omega))) hZ (hw _ (List.mem_of_getElem? (i := 21) rfl)) (hw _ (List.mem_of_getElem? (i := 2) rfl)) (by decide) (by decide)) q62a q62c (g := (mkF m 35 #[.val (.long q1), .second, .val (.long q2), .second, .val (.long q3), .second, .val (.int p4), .val (.int p5), .val (.int (3 : Int32)), .val (.ref b57), .unset, .unset, .unset, .unset, .unset] [(.long q2), (.ref b57)])) rfl (by rw [hml]; rfl) (Steps.refl _) (argsL := [(.long q2)]) (rest := []) (lenOf pd_5 rfl) rfl (by show 2 * 0 + _ ≤ _; exact Nat.le_of_eq rfl) (hb hby at_35) (fun _ _ => ⟨rfl, rfl, (by decide : 2 + 0 ≤ _), (by decide : 1026 + 0 ≤ _)⟩)
    dsimp only [Pt.U, Pt.locs, Pt.cells, Pt.slots] at X62 l62 y62 z62 st62 hQ62
    subst l62 y62 z62
    obtain ⟨rfl, N62q, K62c, P62⟩ := hQ62
    have N62 := Fr.app N60 N62q
    replace X62 : Stand p l e room_1 s m _ below meth c T62 _ 2 1026 := X62
    refine own_go (fun t_ k => st62.trans k) ?_
    have K62 : Keep h0 T62.heap [] := K60.trans K62c (allS (Or.inr sz_b57) (allS (Or.inr szt58) all0))
    replace P62 : LG Z T62.heap b57 t58 kk58 [q1, q2] := P62
    show WP p e below _ (T62.setTop (mkF m 38 #[.val (.long q1), .second, .val (.long q2), .second, .val (.long q3), .second, .val (.int p4), .val (.int p5), .val (.int (3 : Int32)), .val (.ref b57), .unset, .unset, .unset, .unset, .unset] []))
    refine own_go (fun t_ k => XS.iload X62.here hx rfl (hb hby at_38) rfl k) ?_
    show WP p e below _ (T62.setTop (mkF m 40 #[.val (.long q1), .second, .val (.long q2), .second, .val (.long q3), .second, .val (.int p4), .val (.int p5), .val (.int (3 : Int32)), .val (.ref b57), .unset, .unset, .unset, .unset, .unset] [(.int (3 : Int32))]))
    refine own_go (fun t_ k => XS.iconst X62.here hx rfl (hb hby at_40) k) ?_
    show WP p e below _ (T62.setTop (mkF m 41 #[.val (.long q1), .second, .val (.long q2), .second, .val (.long q3), .second, .val (.int p4), .val (.int p5), .val (.int (3 : Int32)), .val (.ref b57), .unset, .unset, .unset, .unset, .unset] [(.int (2 : Int32)), (.int (3 : Int32))]))
    have hc41_63 : ((2 : Int32) < (3 : Int32)) := by decide
    refine own_go (fun t_ k => XS.icmpNo X62.here hx rfl (hb hby at_41) rfl (tlt hc41_63).2.2.2 k) ?_
    show WP p e below _ (T62.setTop (mkF m 44 #[.val (.long q1), .second, .val (.long q2), .second, .val (.long q3), .second, .val (.int p4), .val (.int p5), .val (.int (3 : Int32)), .val (.ref b57), .unset, .unset, .unset, .unset, .unset] []))
    refine own_go (fun t_ k => XS.aload X62.here hx rfl (hb hby at_44) rfl rfl k) ?_
    show WP p e below _ (T62.setTop (mkF m 46 #[.val (.long q1), .second, .val (.long q2), .second, .val (.long q3), .second, .val (.int p4), .val (.int p5), .val (.int (3 : Int32)), .val (.ref b57), .unset, .unset, .unset, .unset, .unset] [(.ref b57)]))
    refine own_go (fun t_ k => XS.lload X62.here hx rfl (hb hby at_46) rfl k) ?_
    show WP p e below _ (T62.setTop (mkF m 48 #[.val (.long q1), .second, .val (.long q2), .second, .val (.long q3), .second, .val (.int p4), .val (.int p5), .val (.int (3 : Int32)), .val (.ref b57), .unset, .unset, .unset, .unset, .unset] [(.long q3), (.ref b57)]))
    obtain ⟨cq64, kq64, q64a, q64b, q64c⟩ := isOf (T := T62) hZ rfl P62.1
    obtain ⟨_, _, ⟨T64, L64, k64, n64⟩, -, X64, ⟨Lc64, hQ64, l64, y64, z64⟩, st64⟩ := X62.virtualBack hx (y := (⟨"com/example/vestry/vestry/Longs", "add", "(J)V"⟩ : MethodName)) (z := (⟨"com/example/vestry/vestry/Longs", "add", "(J)V"⟩ : MethodName)) hown (mvT hZ (hw _ (List.mem_of_getElem? (i := 17) rfl))) (mvT hZ (hw _ (List.mem_of_getElem? (i := 18) rfl))) (notFace_of_selects (args := #[]) (mvT hZ (hw _ (List.mem_of_getElem? (i := 20) rfl)))) (mvT hZ (hw _ (List.mem_of_getElem? (i := 20) rfl))) (mvT hZ (hw _ (List.mem_of_getElem? (i := 19) rfl))) (by decide) (backOf (W := 0) (rm_add l Z a0 hw [] b57 q3 t58 kk58 [q1, q2] T62.heap n0 P62 g_b57 gt58 (by first | decide | (simp only [List.length_append, List.length_cons, List.length_nil]; omega))) hZ (hw _ (List.mem_of_getElem? (i := 21) rfl)) (hw _ (List.mem_of_getElem? (i := 2) rfl)) (by decide) (by decide)) q64a q64c (g := (mkF m 48 #[.val (.long q1), .second, .val (.long q2), .second, .val (.long q3), .second, .val (.int p4), .val (.int p5), .val (.int (3 : Int32)), .val (.ref b57), .unset, .unset, .unset, .unset, .unset] [(.long q3), (.ref b57)])) rfl (by rw [hml]; rfl) (Steps.refl _) (argsL := [(.long q3)]) (rest := []) (lenOf pd_5 rfl) rfl (by show 2 * 0 + _ ≤ _; exact Nat.le_of_eq rfl) (hb hby at_48) (fun _ _ => ⟨rfl, rfl, (by decide : 2 + 0 ≤ _), (by decide : 1026 + 0 ≤ _)⟩)
    dsimp only [Pt.U, Pt.locs, Pt.cells, Pt.slots] at X64 l64 y64 z64 st64 hQ64
    subst l64 y64 z64
    obtain ⟨rfl, N64q, K64c, P64⟩ := hQ64
    have N64 := Fr.app N62 N64q
    replace X64 : Stand p l e room_1 s m _ below meth c T64 _ 2 1026 := X64
    refine own_go (fun t_ k => st64.trans k) ?_
    have K64 : Keep h0 T64.heap [] := K62.trans K64c (allS (Or.inr sz_b57) (allS (Or.inr szt58) all0))
    replace P64 : LG Z T64.heap b57 t58 kk58 [q1, q2, q3] := P64
    show WP p e below _ (T64.setTop (mkF m 51 #[.val (.long q1), .second, .val (.long q2), .second, .val (.long q3), .second, .val (.int p4), .val (.int p5), .val (.int (3 : Int32)), .val (.ref b57), .unset, .unset, .unset, .unset, .unset] []))
    refine own_go (fun t_ k => XS.iload X64.here hx rfl (hb hby at_51) rfl k) ?_
    show WP p e below _ (T64.setTop (mkF m 53 #[.val (.long q1), .second, .val (.long q2), .second, .val (.long q3), .second, .val (.int p4), .val (.int p5), .val (.int (3 : Int32)), .val (.ref b57), .unset, .unset, .unset, .unset, .unset] [(.int (3 : Int32))]))
    have hc53_65 : ¬ ((3 : Int32) = (0 : Int32)) := by decide
    refine own_go (fun t_ k => XS.ifYes X64.here hx rfl (pc0 := 53) (pc' := 70) rfl (hb hby at_53) rfl ((if0 _ _).trans (feq hc53_65).2) (by decide) (by decide) k) ?_
    show WP p e below _ (T64.setTop (mkF m 70 #[.val (.long q1), .second, .val (.long q2), .second, .val (.long q3), .second, .val (.int p4), .val (.int p5), .val (.int (3 : Int32)), .val (.ref b57), .unset, .unset, .unset, .unset, .unset] []))
    refine own_go (fun t_ k => XS.iload X64.here hx rfl (hb hby at_70) rfl k) ?_
    show WP p e below _ (T64.setTop (mkF m 72 #[.val (.long q1), .second, .val (.long q2), .second, .val (.long q3), .second, .val (.int p4), .val (.int p5), .val (.int (3 : Int32)), .val (.ref b57), .unset, .unset, .unset, .unset, .unset] [(.int p5)]))
    refine own_go (fun t_ k => X64.ldcInt hx hown (mvT hZ (hw _ (List.mem_of_getElem? (i := 22) rfl))) (g := (mkF m 72 #[.val (.long q1), .second, .val (.long q2), .second, .val (.long q3), .second, .val (.int p4), .val (.int p5), .val (.int (3 : Int32)), .val (.ref b57), .unset, .unset, .unset, .unset, .unset] [(.int p5)])) rfl (hb hby at_72) _ k) ?_
    show WP p e below _ (T64.setTop (mkF m 74 #[.val (.long q1), .second, .val (.long q2), .second, .val (.long q3), .second, .val (.int p4), .val (.int p5), .val (.int (3 : Int32)), .val (.ref b57), .unset, .unset, .unset, .unset, .unset] [(.int (2147483647 : Int32)), (.int p5)]))
    refine own_go (fun t_ k => XS.iand X64.here hx rfl (hb hby at_74) rfl k) ?_
    show WP p e below _ (T64.setTop (mkF m 75 #[.val (.long q1), .second, .val (.long q2), .second, .val (.long q3), .second, .val (.int p4), .val (.int p5), .val (.int (3 : Int32)), .val (.ref b57), .unset, .unset, .unset, .unset, .unset] [(.int (p5 &&& (2147483647 : Int32)))]))
    refine own_go (fun t_ k => XS.iload X64.here hx rfl (hb hby at_75) rfl k) ?_
    show WP p e below _ (T64.setTop (mkF m 77 #[.val (.long q1), .second, .val (.long q2), .second, .val (.long q3), .second, .val (.int p4), .val (.int p5), .val (.int (3 : Int32)), .val (.ref b57), .unset, .unset, .unset, .unset, .unset] [(.int (3 : Int32)), (.int (p5 &&& (2147483647 : Int32)))]))
    refine own_go (fun t_ k => iremM X64 hx rfl (hb hby at_77) rfl (by decide) k) ?_
    show WP p e below _ (T64.setTop (mkF m 78 #[.val (.long q1), .second, .val (.long q2), .second, .val (.long q3), .second, .val (.int p4), .val (.int p5), .val (.int (3 : Int32)), .val (.ref b57), .unset, .unset, .unset, .unset, .unset] [(.int ((p5 &&& (2147483647 : Int32)) % (3 : Int32)))]))
    refine own_go (fun t_ k => XS.istore X64.here hx rfl (hb hby at_78) rfl (l' := #[.val (.long q1), .second, .val (.long q2), .second, .val (.long q3), .second, .val (.int p4), .val (.int p5), .val (.int (3 : Int32)), .val (.ref b57), .val (.int ((p5 &&& (2147483647 : Int32)) % (3 : Int32))), .unset, .unset, .unset, .unset]) rfl k) ?_
    show WP p e below _ (T64.setTop (mkF m 80 #[.val (.long q1), .second, .val (.long q2), .second, .val (.long q3), .second, .val (.int p4), .val (.int p5), .val (.int (3 : Int32)), .val (.ref b57), .val (.int ((p5 &&& (2147483647 : Int32)) % (3 : Int32))), .unset, .unset, .unset, .unset] []))
    generalize he66 : ((p5 &&& (2147483647 : Int32)) % (3 : Int32)) = vi66
    show WP p e below _ (T64.setTop (mkF m 80 #[.val (.long q1), .second, .val (.long q2), .second, .val (.long q3), .second, .val (.int p4), .val (.int p5), .val (.int (3 : Int32)), .val (.ref b57), .val (.int vi66), .unset, .unset, .unset, .unset] []))
    refine own_go (fun t_ k => XS.aload X64.here hx rfl (hb hby at_80) rfl rfl k) ?_
    show WP p e below _ (T64.setTop (mkF m 82 #[.val (.long q1), .second, .val (.long q2), .second, .val (.long q3), .second, .val (.int p4), .val (.int p5), .val (.int (3 : Int32)), .val (.ref b57), .val (.int vi66), .unset, .unset, .unset, .unset] [(.ref b57)]))
    refine own_go (fun t_ k => XS.iload X64.here hx rfl (hb hby at_82) rfl k) ?_
    show WP p e below _ (T64.setTop (mkF m 84 #[.val (.long q1), .second, .val (.long q2), .second, .val (.long q3), .second, .val (.int p4), .val (.int p5), .val (.int (3 : Int32)), .val (.ref b57), .val (.int vi66), .unset, .unset, .unset, .unset] [(.int vi66), (.ref b57)]))
    obtain ⟨cq67, kq67, q67a, q67b, q67c⟩ := isOf (T := T64) hZ rfl P64.1
    obtain ⟨_, _, ⟨T67, L67, k67, n67⟩, -, X67, ⟨Lc67, hQ67, l67, y67, z67⟩, st67⟩ := X64.virtualBack hx (y := (⟨"com/example/vestry/vestry/Longs", "get", "(I)J"⟩ : MethodName)) (z := (⟨"com/example/vestry/vestry/Longs", "get", "(I)J"⟩ : MethodName)) hown (mvT hZ (hw _ (List.mem_of_getElem? (i := 23) rfl))) (mvT hZ (hw _ (List.mem_of_getElem? (i := 24) rfl))) (notFace_of_selects (args := #[]) (mvT hZ (hw _ (List.mem_of_getElem? (i := 26) rfl)))) (mvT hZ (hw _ (List.mem_of_getElem? (i := 26) rfl))) (mvT hZ (hw _ (List.mem_of_getElem? (i := 25) rfl))) (by decide) (backOf (W := 0) (rm_get l Z a0 hw [] b57 vi66 t58 kk58 [q1, q2, q3] T64.heap n0 P64 (by first | decide | (simp only [List.length_append, List.length_cons, List.length_nil]; omega)) (own_rem 3 3 rfl (by decide) (by decide) he66).1 (own_rem 3 3 rfl (by decide) (by decide) he66).2.1) hZ (hw _ (List.mem_of_getElem? (i := 27) rfl)) (hw _ (List.mem_of_getElem? (i := 2) rfl)) (by decide) (by decide)) q67a q67c (g := (mkF m 84 #[.val (.long q1), .second, .val (.long q2), .second, .val (.long q3), .second, .val (.int p4), .val (.int p5), .val (.int (3 : Int32)), .val (.ref b57), .val (.int vi66), .unset, .unset, .unset, .unset] [(.int vi66), (.ref b57)])) rfl (by rw [hml]; rfl) (Steps.refl _) (argsL := [(.int vi66)]) (rest := []) (lenOf pd_6 rfl) rfl (by show 2 * 0 + _ ≤ _; exact Nat.le_of_eq rfl) (hb hby at_84) (fun _ _ => ⟨rfl, rfl, (by decide : 2 + 0 ≤ _), (by decide : 1026 + 0 ≤ _)⟩)
    dsimp only [Pt.U, Pt.locs, Pt.cells, Pt.slots] at X67 l67 y67 z67 st67 hQ67
    subst l67 y67 z67
    obtain ⟨rfl, N67q, e67⟩ := hQ67
    have N67 := Fr.app N64 N67q
    replace X67 : Stand p l e room_1 s m _ below meth c T67 _ 2 1026 := X67
    refine own_go (fun t_ k => st67.trans k) ?_
    show WP p e below _ (T67.setTop (mkF m 87 #[.val (.long q1), .second, .val (.long q2), .second, .val (.long q3), .second, .val (.int p4), .val (.int p5), .val (.int (3 : Int32)), .val (.ref b57), .val (.int vi66), .unset, .unset, .unset, .unset] [(.long (List.getD [q1, q2, q3] vi66.toNatClampNeg 0))]))
    generalize he68 : (List.getD [q1, q2, q3] vi66.toNatClampNeg 0) = vj68
    show WP p e below _ (T67.setTop (mkF m 87 #[.val (.long q1), .second, .val (.long q2), .second, .val (.long q3), .second, .val (.int p4), .val (.int p5), .val (.int (3 : Int32)), .val (.ref b57), .val (.int vi66), .unset, .unset, .unset, .unset] [(.long vj68)]))
    refine own_go (fun t_ k => XS.lstore X67.here hx rfl (hb hby at_87) rfl (l' := #[.val (.long q1), .second, .val (.long q2), .second, .val (.long q3), .second, .val (.int p4), .val (.int p5), .val (.int (3 : Int32)), .val (.ref b57), .val (.int vi66), .val (.long vj68), .second, .unset, .unset]) rfl k) ?_
    show WP p e below _ (T67.setTop (mkF m 89 #[.val (.long q1), .second, .val (.long q2), .second, .val (.long q3), .second, .val (.int p4), .val (.int p5), .val (.int (3 : Int32)), .val (.ref b57), .val (.int vi66), .val (.long vj68), .second, .unset, .unset] []))
    refine own_go (fun t_ k => XS.aload X67.here hx rfl (hb hby at_89) rfl rfl k) ?_
    show WP p e below _ (T67.setTop (mkF m 91 #[.val (.long q1), .second, .val (.long q2), .second, .val (.long q3), .second, .val (.int p4), .val (.int p5), .val (.int (3 : Int32)), .val (.ref b57), .val (.int vi66), .val (.long vj68), .second, .unset, .unset] [(.ref b57)]))
    refine own_go (fun t_ k => XS.iload X67.here hx rfl (hb hby at_91) rfl k) ?_
    show WP p e below _ (T67.setTop (mkF m 93 #[.val (.long q1), .second, .val (.long q2), .second, .val (.long q3), .second, .val (.int p4), .val (.int p5), .val (.int (3 : Int32)), .val (.ref b57), .val (.int vi66), .val (.long vj68), .second, .unset, .unset] [(.int (3 : Int32)), (.ref b57)]))
    refine own_go (fun t_ k => XS.iconst X67.here hx rfl (hb hby at_93) k) ?_
    show WP p e below _ (T67.setTop (mkF m 94 #[.val (.long q1), .second, .val (.long q2), .second, .val (.long q3), .second, .val (.int p4), .val (.int p5), .val (.int (3 : Int32)), .val (.ref b57), .val (.int vi66), .val (.long vj68), .second, .unset, .unset] [(.int (1 : Int32)), (.int (3 : Int32)), (.ref b57)]))
    refine own_go (fun t_ k => XS.isub X67.here hx rfl (hb hby at_94) rfl k) ?_
    show WP p e below _ (T67.setTop (mkF m 95 #[.val (.long q1), .second, .val (.long q2), .second, .val (.long q3), .second, .val (.int p4), .val (.int p5), .val (.int (3 : Int32)), .val (.ref b57), .val (.int vi66), .val (.long vj68), .second, .unset, .unset] [(.int (2 : Int32)), (.ref b57)]))
    obtain ⟨cq69, kq69, q69a, q69b, q69c⟩ := isOf (T := T67) hZ e67 P64.1
    obtain ⟨_, _, ⟨T69, L69, k69, n69⟩, -, X69, ⟨Lc69, hQ69, l69, y69, z69⟩, st69⟩ := X67.virtualBack hx (y := (⟨"com/example/vestry/vestry/Longs", "get", "(I)J"⟩ : MethodName)) (z := (⟨"com/example/vestry/vestry/Longs", "get", "(I)J"⟩ : MethodName)) hown (mvT hZ (hw _ (List.mem_of_getElem? (i := 23) rfl))) (mvT hZ (hw _ (List.mem_of_getElem? (i := 24) rfl))) (notFace_of_selects (args := #[]) (mvT hZ (hw _ (List.mem_of_getElem? (i := 26) rfl)))) (mvT hZ (hw _ (List.mem_of_getElem? (i := 26) rfl))) (mvT hZ (hw _ (List.mem_of_getElem? (i := 25) rfl))) (by decide) (backOf (W := 0) (rm_get l Z a0 hw [] b57 (2 : Int32) t58 kk58 [q1, q2, q3] T64.heap n0 P64 (by first | decide | (simp only [List.length_append, List.length_cons, List.length_nil]; omega)) (by decide) (by show (2 : Int32) < Int32.ofNat 3; decide)) hZ (hw _ (List.mem_of_getElem? (i := 27) rfl)) (hw _ (List.mem_of_getElem? (i := 2) rfl)) (by decide) (by decide)) q69a q69c (g := (mkF m 95 #[.val (.long q1), .second, .val (.long q2), .second, .val (.long q3), .second, .val (.int p4), .val (.int p5), .val (.int (3 : Int32)), .val (.ref b57), .val (.int vi66), .val (.long vj68), .second, .unset, .unset] [(.int (2 : Int32)), (.ref b57)])) rfl (by rw [hml]; rfl) (Steps.refl _) (argsL := [(.int (2 : Int32))]) (rest := []) (lenOf pd_6 rfl) rfl (by show 2 * 0 + _ ≤ _; exact Nat.le_of_eq rfl) (hb hby at_95) (fun _ _ => ⟨rfl, e67, (by decide : 2 + 0 ≤ _), (by decide : 1026 + 0 ≤ _)⟩)
    dsimp only [Pt.U, Pt.locs, Pt.cells, Pt.slots] at X69 l69 y69 z69 st69 hQ69
    subst l69 y69 z69
    obtain ⟨rfl, N69q, e69⟩ := hQ69
    have N69 := Fr.app N67 N69q
    replace X69 : Stand p l e room_1 s m _ below meth c T69 _ 2 1026 := X69
    refine own_go (fun t_ k => st69.trans k) ?_
    show WP p e below _ (T69.setTop (mkF m 98 #[.val (.long q1), .second, .val (.long q2), .second, .val (.long q3), .second, .val (.int p4), .val (.int p5), .val (.int (3 : Int32)), .val (.ref b57), .val (.int vi66), .val (.long vj68), .second, .unset, .unset] [(.long (List.getD [q1, q2, q3] (2 : Int32).toNatClampNeg 0))]))
    generalize he70 : (List.getD [q1, q2, q3] (2 : Int32).toNatClampNeg 0) = vj70
    show WP p e below _ (T69.setTop (mkF m 98 #[.val (.long q1), .second, .val (.long q2), .second, .val (.long q3), .second, .val (.int p4), .val (.int p5), .val (.int (3 : Int32)), .val (.ref b57), .val (.int vi66), .val (.long vj68), .second, .unset, .unset] [(.long vj70)]))
    refine own_go (fun t_ k => XS.lstore X69.here hx rfl (hb hby at_98) rfl (l' := #[.val (.long q1), .second, .val (.long q2), .second, .val (.long q3), .second, .val (.int p4), .val (.int p5), .val (.int (3 : Int32)), .val (.ref b57), .val (.int vi66), .val (.long vj68), .second, .val (.long vj70), .second]) rfl k) ?_
    show WP p e below _ (T69.setTop (mkF m 100 #[.val (.long q1), .second, .val (.long q2), .second, .val (.long q3), .second, .val (.int p4), .val (.int p5), .val (.int (3 : Int32)), .val (.ref b57), .val (.int vi66), .val (.long vj68), .second, .val (.long vj70), .second] []))
    refine own_go (fun t_ k => XS.aload X69.here hx rfl (hb hby at_100) rfl rfl k) ?_
    show WP p e below _ (T69.setTop (mkF m 102 #[.val (.long q1), .second, .val (.long q2), .second, .val (.long q3), .second, .val (.int p4), .val (.int p5), .val (.int (3 : Int32)), .val (.ref b57), .val (.int vi66), .val (.long vj68), .second, .val (.long vj70), .second] [(.ref b57)]))
    obtain ⟨cq71, kq71, q71a, q71b, q71c⟩ := isOf (T := T69) hZ e69 P64.1
    obtain ⟨_, _, ⟨T71, L71, k71, n71⟩, -, X71, ⟨Lc71, hQ71, l71, y71, z71⟩, st71⟩ := X69.virtualBack hx (y := (⟨"com/example/vestry/vestry/Longs", "size", "()I"⟩ : MethodName)) (z := (⟨"com/example/vestry/vestry/Longs", "size", "()I"⟩ : MethodName)) hown (mvT hZ (hw _ (List.mem_of_getElem? (i := 36) rfl))) (mvT hZ (hw _ (List.mem_of_getElem? (i := 37) rfl))) (notFace_of_selects (args := #[]) (mvT hZ (hw _ (List.mem_of_getElem? (i := 39) rfl)))) (mvT hZ (hw _ (List.mem_of_getElem? (i := 39) rfl))) (mvT hZ (hw _ (List.mem_of_getElem? (i := 38) rfl))) (by decide) (backOf (W := 0) (rm_size l Z a0 hw [] b57 t58 kk58 [q1, q2, q3] T64.heap n0 P64) hZ (hw _ (List.mem_of_getElem? (i := 40) rfl)) (hw _ (List.mem_of_getElem? (i := 2) rfl)) (by decide) (by decide)) q71a q71c (g := (mkF m 102 #[.val (.long q1), .second, .val (.long q2), .second, .val (.long q3), .second, .val (.int p4), .val (.int p5), .val (.int (3 : Int32)), .val (.ref b57), .val (.int vi66), .val (.long vj68), .second, .val (.long vj70), .second] [(.ref b57)])) rfl (by rw [hml]; rfl) (Steps.refl _) (argsL := []) (rest := []) (lenOf pd_4 rfl) rfl (by show 2 * 0 + _ ≤ _; exact Nat.le_of_eq rfl) (hb hby at_102) (fun _ _ => ⟨rfl, e69, (by decide : 2 + 0 ≤ _), (by decide : 1026 + 0 ≤ _)⟩)
    dsimp only [Pt.U, Pt.locs, Pt.cells, Pt.slots] at X71 l71 y71 z71 st71 hQ71
    subst l71 y71 z71
    obtain ⟨rfl, N71q, e71⟩ := hQ71
    have N71 := Fr.app N69 N71q
    replace X71 : Stand p l e room_1 s m _ below meth c T71 _ 2 1026 := X71
    refine own_go (fun t_ k => st71.trans k) ?_
    show WP p e below _ (T71.setTop (mkF m 105 #[.val (.long q1), .second, .val (.long q2), .second, .val (.long q3), .second, .val (.int p4), .val (.int p5), .val (.int (3 : Int32)), .val (.ref b57), .val (.int vi66), .val (.long vj68), .second, .val (.long vj70), .second] [(.int (Int32.ofNat (List.length [q1, q2, q3])))]))
    generalize he72 : (Int32.ofNat (List.length [q1, q2, q3])) = vi72
    show WP p e below _ (T71.setTop (mkF m 105 #[.val (.long q1), .second, .val (.long q2), .second, .val (.long q3), .second, .val (.int p4), .val (.int p5), .val (.int (3 : Int32)), .val (.ref b57), .val (.int vi66), .val (.long vj68), .second, .val (.long vj70), .second] [(.int vi72)]))
    refine own_go (fun t_ k => XS.iload X71.here hx rfl (hb hby at_105) rfl k) ?_
    show WP p e below _ (T71.setTop (mkF m 107 #[.val (.long q1), .second, .val (.long q2), .second, .val (.long q3), .second, .val (.int p4), .val (.int p5), .val (.int (3 : Int32)), .val (.ref b57), .val (.int vi66), .val (.long vj68), .second, .val (.long vj70), .second] [(.int (3 : Int32)), (.int vi72)]))
    have J75 : ∀ (T75 : State) (ls75 : List Loc) (X75 : Stand p l e room_1 s m #[(.long q1), (.long q2), (.long q3), (.int p4), (.int p5)] below meth c T75 ls75 2 1026) (N75 : Fr n0 ls75) (e75 : T75.heap = T64.heap) (z74_S0 : Int32) (hz74_S0 : z74_S0 = (if vi72 = (3 : Int32) then (if vj68 = (f9 vi66 q1 q2 q3) then (if vj70 = (f9 (2 : Int32) q1 q2 q3) then (1 : Int32) else (0 : Int32)) else (0 : Int32)) else (0 : Int32))), WP p e below (GG (Q0 n0) s room_1.cells room_1.slots) (T75.setTop (mkF m 147 #[.val (.long q1), .second, .val (.long q2), .second, .val (.long q3), .second, .val (.int p4), .val (.int p5), .val (.int (3 : Int32)), .val (.ref b57), .val (.int vi66), .val (.long vj68), .second, .val (.long vj70), .second] [(.int z74_S0)])) := by
      intro T75 ls75 X75 N75 e75 z74_S0 hz74_S0
      show WP p e below _ (T75.setTop (mkF m 147 #[.val (.long q1), .second, .val (.long q2), .second, .val (.long q3), .second, .val (.int p4), .val (.int p5), .val (.int (3 : Int32)), .val (.ref b57), .val (.int vi66), .val (.long vj68), .second, .val (.long vj70), .second] [(.int z74_S0)]))
      exact own_retZ X75 hx Bd.notSynchronized Bd.returns (hb hby at_147) (by rw [hz74_S0]; (repeat' split); all_goals first | exact Or.inl rfl | exact Or.inr rfl) (show Q0 n0 _ _ _ from ⟨congrArg (fun z => some (Value.int z)) (own_law_4 (q1 := q1) (q2 := q2) (q3 := q3) (p4 := p4) (p5 := p5) he1 he66 he68 he70 he72 hz74_S0), N75⟩) (by decide) (by decide)
    by_cases hc107_73 : vi72 = (3 : Int32)
    · refine own_go (fun t_ k => XS.icmpNo X71.here hx rfl (hb hby at_107) rfl (teq hc107_73).2 k) ?_
      show WP p e below _ (T71.setTop (mkF m 110 #[.val (.long q1), .second, .val (.long q2), .second, .val (.long q3), .second, .val (.int p4), .val (.int p5), .val (.int (3 : Int32)), .val (.ref b57), .val (.int vi66), .val (.long vj68), .second, .val (.long vj70), .second] []))
      refine own_go (fun t_ k => XS.lload X71.here hx rfl (hb hby at_110) rfl k) ?_
      show WP p e below _ (T71.setTop (mkF m 112 #[.val (.long q1), .second, .val (.long q2), .second, .val (.long q3), .second, .val (.int p4), .val (.int p5), .val (.int (3 : Int32)), .val (.ref b57), .val (.int vi66), .val (.long vj68), .second, .val (.long vj70), .second] [(.long vj68)]))
      refine own_go (fun t_ k => XS.iload X71.here hx rfl (hb hby at_112) rfl k) ?_
      show WP p e below _ (T71.setTop (mkF m 114 #[.val (.long q1), .second, .val (.long q2), .second, .val (.long q3), .second, .val (.int p4), .val (.int p5), .val (.int (3 : Int32)), .val (.ref b57), .val (.int vi66), .val (.long vj68), .second, .val (.long vj70), .second] [(.int vi66), (.long vj68)]))
      refine own_go (fun t_ k => XS.lloadN X71.here hx rfl (hb hby at_114) rfl k) ?_
      show WP p e below _ (T71.setTop (mkF m 115 #[.val (.long q1), .second, .val (.long q2), .second, .val (.long q3), .second, .val (.int p4), .val (.int p5), .val (.int (3 : Int32)), .val (.ref b57), .val (.int vi66), .val (.long vj68), .second, .val (.long vj70), .second] [(.long q1), (.int vi66), (.long vj68)]))
      refine own_go (fun t_ k => XS.lloadN X71.here hx rfl (hb hby at_115) rfl k) ?_
      show WP p e below _ (T71.setTop (mkF m 116 #[.val (.long q1), .second, .val (.long q2), .second, .val (.long q3), .second, .val (.int p4), .val (.int p5), .val (.int (3 : Int32)), .val (.ref b57), .val (.int vi66), .val (.long vj68), .second, .val (.long vj70), .second] [(.long q2), (.long q1), (.int vi66), (.long vj68)]))
      refine own_go (fun t_ k => XS.lload X71.here hx rfl (hb hby at_116) rfl k) ?_
      show WP p e below _ (T71.setTop (mkF m 118 #[.val (.long q1), .second, .val (.long q2), .second, .val (.long q3), .second, .val (.int p4), .val (.int p5), .val (.int (3 : Int32)), .val (.ref b57), .val (.int vi66), .val (.long vj68), .second, .val (.long vj70), .second] [(.long q3), (.long q2), (.long q1), (.int vi66), (.long vj68)]))
      obtain ⟨_, _, ⟨T76, L76, k76, n76⟩, -, X76, ⟨Lc76, hQ76, l76, y76, z76⟩, st76⟩ := Jvm.LawKit.callS X71 hx (y := (⟨"com/example/vestry/vestry/LongsGetPinLaw", "nth", "(IJJJ)J"⟩ : MethodName)) hown (mvT hZ (hw _ (List.mem_of_getElem? (i := 41) rfl))) (mvT hZ (hw _ (List.mem_of_getElem? (i := 42) rfl))) (mvT hZ (hw _ (List.mem_of_getElem? (i := 43) rfl))) (mvT hZ (hw _ (List.mem_of_getElem? (i := 44) rfl))) (by decide) (backOf (W := 2) (rm9 l Z a0 hw [] vi66 q1 q2 q3 T64.heap n0) hZ (hw _ (List.mem_of_getElem? (i := 44) rfl)) (hw _ (List.mem_of_getElem? (i := 43) rfl)) (by decide) (by decide)) (g := (mkF m 118 #[.val (.long q1), .second, .val (.long q2), .second, .val (.long q3), .second, .val (.int p4), .val (.int p5), .val (.int (3 : Int32)), .val (.ref b57), .val (.int vi66), .val (.long vj68), .second, .val (.long vj70), .second] [(.long q3), (.long q2), (.long q1), (.int vi66), (.long vj68)])) rfl (by rw [hml]; rfl) (argsL := [(.int vi66), (.long q1), (.long q2), (.long q3)]) (rest := [(.long vj68)]) (lenOf pd_7 rfl) rfl (by show 2 * 0 + _ ≤ _; exact Nat.le_of_eq rfl) (hb hby at_118) (fun _ _ => ⟨rfl, e71, (by decide : 2 + 0 ≤ _), (by decide : 1026 + 0 ≤ _)⟩)
      dsimp only [Pt.U, Pt.locs, Pt.cells, Pt.slots] at X76 l76 y76 z76 st76 hQ76
      subst l76 y76 z76
      obtain ⟨rfl, N76q, e76⟩ := hQ76
      have N76 := Fr.app N71 N76q
      replace X76 : Stand p l e room_1 s m _ below meth c T76 _ 2 1026 := X76
      refine own_go st76 ?_
      show WP p e below _ (T76.setTop (mkF m 121 #[.val (.long q1), .second, .val (.long q2), .second, .val (.long q3), .second, .val (.int p4), .val (.int p5), .val (.int (3 : Int32)), .val (.ref b57), .val (.int vi66), .val (.long vj68), .second, .val (.long vj70), .second] [(.long (f9 vi66 q1 q2 q3)), (.long vj68)]))
      refine own_go (fun t_ k => XS.lcmp X76.here hx rfl (hb hby at_121) rfl k) ?_
      show WP p e below _ (T76.setTop (mkF m 122 #[.val (.long q1), .second, .val (.long q2), .second, .val (.long q3), .second, .val (.int p4), .val (.int p5), .val (.int (3 : Int32)), .val (.ref b57), .val (.int vi66), .val (.long vj68), .second, .val (.long vj70), .second] [(.int (lcmpW vj68 (f9 vi66 q1 q2 q3)))]))
      by_cases hc122_77 : vj68 = (f9 vi66 q1 q2 q3)
      · refine own_go (fun t_ k => XS.ifNo X76.here hx rfl (hb hby at_122) rfl ((if0 _ _).trans (teq ((lw_eq _ _).mpr hc122_77)).2) k) ?_
        show WP p e below _ (T76.setTop (mkF m 125 #[.val (.long q1), .second, .val (.long q2), .second, .val (.long q3), .second, .val (.int p4), .val (.int p5), .val (.int (3 : Int32)), .val (.ref b57), .val (.int vi66), .val (.long vj68), .second, .val (.long vj70), .second] []))
        refine own_go (fun t_ k => XS.lload X76.here hx rfl (hb hby at_125) rfl k) ?_
        show WP p e below _ (T76.setTop (mkF m 127 #[.val (.long q1), .second, .val (.long q2), .second, .val (.long q3), .second, .val (.int p4), .val (.int p5), .val (.int (3 : Int32)), .val (.ref b57), .val (.int vi66), .val (.long vj68), .second, .val (.long vj70), .second] [(.long vj70)]))
        refine own_go (fun t_ k => XS.iload X76.here hx rfl (hb hby at_127) rfl k) ?_
        show WP p e below _ (T76.setTop (mkF m 129 #[.val (.long q1), .second, .val (.long q2), .second, .val (.long q3), .second, .val (.int p4), .val (.int p5), .val (.int (3 : Int32)), .val (.ref b57), .val (.int vi66), .val (.long vj68), .second, .val (.long vj70), .second] [(.int (3 : Int32)), (.long vj70)]))
        refine own_go (fun t_ k => XS.iconst X76.here hx rfl (hb hby at_129) k) ?_
        show WP p e below _ (T76.setTop (mkF m 130 #[.val (.long q1), .second, .val (.long q2), .second, .val (.long q3), .second, .val (.int p4), .val (.int p5), .val (.int (3 : Int32)), .val (.ref b57), .val (.int vi66), .val (.long vj68), .second, .val (.long vj70), .second] [(.int (1 : Int32)), (.int (3 : Int32)), (.long vj70)]))
        refine own_go (fun t_ k => XS.isub X76.here hx rfl (hb hby at_130) rfl k) ?_
        show WP p e below _ (T76.setTop (mkF m 131 #[.val (.long q1), .second, .val (.long q2), .second, .val (.long q3), .second, .val (.int p4), .val (.int p5), .val (.int (3 : Int32)), .val (.ref b57), .val (.int vi66), .val (.long vj68), .second, .val (.long vj70), .second] [(.int (2 : Int32)), (.long vj70)]))
        refine own_go (fun t_ k => XS.lloadN X76.here hx rfl (hb hby at_131) rfl k) ?_
        show WP p e below _ (T76.setTop (mkF m 132 #[.val (.long q1), .second, .val (.long q2), .second, .val (.long q3), .second, .val (.int p4), .val (.int p5), .val (.int (3 : Int32)), .val (.ref b57), .val (.int vi66), .val (.long vj68), .second, .val (.long vj70), .second] [(.long q1), (.int (2 : Int32)), (.long vj70)]))
        refine own_go (fun t_ k => XS.lloadN X76.here hx rfl (hb hby at_132) rfl k) ?_
        show WP p e below _ (T76.setTop (mkF m 133 #[.val (.long q1), .second, .val (.long q2), .second, .val (.long q3), .second, .val (.int p4), .val (.int p5), .val (.int (3 : Int32)), .val (.ref b57), .val (.int vi66), .val (.long vj68), .second, .val (.long vj70), .second] [(.long q2), (.long q1), (.int (2 : Int32)), (.long vj70)]))
        refine own_go (fun t_ k => XS.lload X76.here hx rfl (hb hby at_133) rfl k) ?_
        show WP p e below _ (T76.setTop (mkF m 135 #[.val (.long q1), .second, .val (.long q2), .second, .val (.long q3), .second, .val (.int p4), .val (.int p5), .val (.int (3 : Int32)), .val (.ref b57), .val (.int vi66), .val (.long vj68), .second, .val (.long vj70), .second] [(.long q3), (.long q2), (.long q1), (.int (2 : Int32)), (.long vj70)]))
        obtain ⟨_, _, ⟨T78, L78, k78, n78⟩, -, X78, ⟨Lc78, hQ78, l78, y78, z78⟩, st78⟩ := Jvm.LawKit.callS X76 hx (y := (⟨"com/example/vestry/vestry/LongsGetPinLaw", "nth", "(IJJJ)J"⟩ : MethodName)) hown (mvT hZ (hw _ (List.mem_of_getElem? (i := 41) rfl))) (mvT hZ (hw _ (List.mem_of_getElem? (i := 42) rfl))) (mvT hZ (hw _ (List.mem_of_getElem? (i := 43) rfl))) (mvT hZ (hw _ (List.mem_of_getElem? (i := 44) rfl))) (by decide) (backOf (W := 2) (rm9 l Z a0 hw [] (2 : Int32) q1 q2 q3 T64.heap n0) hZ (hw _ (List.mem_of_getElem? (i := 44) rfl)) (hw _ (List.mem_of_getElem? (i := 43) rfl)) (by decide) (by decide)) (g := (mkF m 135 #[.val (.long q1), .second, .val (.long q2), .second, .val (.long q3), .second, .val (.int p4), .val (.int p5), .val (.int (3 : Int32)), .val (.ref b57), .val (.int vi66), .val (.long vj68), .second, .val (.long vj70), .second] [(.long q3), (.long q2), (.long q1), (.int (2 : Int32)), (.long vj70)])) rfl (by rw [hml]; rfl) (argsL := [(.int (2 : Int32)), (.long q1), (.long q2), (.long q3)]) (rest := [(.long vj70)]) (lenOf pd_7 rfl) rfl (by show 2 * 0 + _ ≤ _; exact Nat.le_of_eq rfl) (hb hby at_135) (fun _ _ => ⟨rfl, e76, (by decide : 2 + 0 ≤ _), (by decide : 1026 + 0 ≤ _)⟩)
        dsimp only [Pt.U, Pt.locs, Pt.cells, Pt.slots] at X78 l78 y78 z78 st78 hQ78
        subst l78 y78 z78
        obtain ⟨rfl, N78q, e78⟩ := hQ78
        have N78 := Fr.app N76 N78q
        replace X78 : Stand p l e room_1 s m _ below meth c T78 _ 2 1026 := X78
        refine own_go st78 ?_
        show WP p e below _ (T78.setTop (mkF m 138 #[.val (.long q1), .second, .val (.long q2), .second, .val (.long q3), .second, .val (.int p4), .val (.int p5), .val (.int (3 : Int32)), .val (.ref b57), .val (.int vi66), .val (.long vj68), .second, .val (.long vj70), .second] [(.long (f9 (2 : Int32) q1 q2 q3)), (.long vj70)]))
        refine own_go (fun t_ k => XS.lcmp X78.here hx rfl (hb hby at_138) rfl k) ?_
        show WP p e below _ (T78.setTop (mkF m 139 #[.val (.long q1), .second, .val (.long q2), .second, .val (.long q3), .second, .val (.int p4), .val (.int p5), .val (.int (3 : Int32)), .val (.ref b57), .val (.int vi66), .val (.long vj68), .second, .val (.long vj70), .second] [(.int (lcmpW vj70 (f9 (2 : Int32) q1 q2 q3)))]))
        by_cases hc139_79 : vj70 = (f9 (2 : Int32) q1 q2 q3)
        · refine own_go (fun t_ k => XS.ifNo X78.here hx rfl (hb hby at_139) rfl ((if0 _ _).trans (teq ((lw_eq _ _).mpr hc139_79)).2) k) ?_
          show WP p e below _ (T78.setTop (mkF m 142 #[.val (.long q1), .second, .val (.long q2), .second, .val (.long q3), .second, .val (.int p4), .val (.int p5), .val (.int (3 : Int32)), .val (.ref b57), .val (.int vi66), .val (.long vj68), .second, .val (.long vj70), .second] []))
          refine own_go (fun t_ k => XS.iconst X78.here hx rfl (hb hby at_142) k) ?_
          show WP p e below _ (T78.setTop (mkF m 143 #[.val (.long q1), .second, .val (.long q2), .second, .val (.long q3), .second, .val (.int p4), .val (.int p5), .val (.int (3 : Int32)), .val (.ref b57), .val (.int vi66), .val (.long vj68), .second, .val (.long vj70), .second] [(.int (1 : Int32))]))
          refine own_go (fun t_ k => XS.goto X78.here hx rfl (pc0 := 143) (pc' := 147) rfl (hb hby at_143) (by decide) (by decide) k) ?_
          show WP p e below _ (T78.setTop (mkF m 147 #[.val (.long q1), .second, .val (.long q2), .second, .val (.long q3), .second, .val (.int p4), .val (.int p5), .val (.int (3 : Int32)), .val (.ref b57), .val (.int vi66), .val (.long vj68), .second, .val (.long vj70), .second] [(.int (1 : Int32))]))
          exact J75 T78 _ X78 N78 e78 _ (by rw [if_pos hc107_73, if_pos hc122_77, if_pos hc139_79])
        · refine own_go (fun t_ k => XS.ifYes X78.here hx rfl (pc0 := 139) (pc' := 146) rfl (hb hby at_139) rfl ((if0 _ _).trans (feq (mt (lw_eq _ _).mp hc139_79)).2) (by decide) (by decide) k) ?_
          show WP p e below _ (T78.setTop (mkF m 146 #[.val (.long q1), .second, .val (.long q2), .second, .val (.long q3), .second, .val (.int p4), .val (.int p5), .val (.int (3 : Int32)), .val (.ref b57), .val (.int vi66), .val (.long vj68), .second, .val (.long vj70), .second] []))
          refine own_go (fun t_ k => XS.iconst X78.here hx rfl (hb hby at_146) k) ?_
          show WP p e below _ (T78.setTop (mkF m 147 #[.val (.long q1), .second, .val (.long q2), .second, .val (.long q3), .second, .val (.int p4), .val (.int p5), .val (.int (3 : Int32)), .val (.ref b57), .val (.int vi66), .val (.long vj68), .second, .val (.long vj70), .second] [(.int (0 : Int32))]))
          exact J75 T78 _ X78 N78 e78 _ (by rw [if_pos hc107_73, if_pos hc122_77, if_neg hc139_79])
      · refine own_go (fun t_ k => XS.ifYes X76.here hx rfl (pc0 := 122) (pc' := 146) rfl (hb hby at_122) rfl ((if0 _ _).trans (feq (mt (lw_eq _ _).mp hc122_77)).2) (by decide) (by decide) k) ?_
        show WP p e below _ (T76.setTop (mkF m 146 #[.val (.long q1), .second, .val (.long q2), .second, .val (.long q3), .second, .val (.int p4), .val (.int p5), .val (.int (3 : Int32)), .val (.ref b57), .val (.int vi66), .val (.long vj68), .second, .val (.long vj70), .second] []))
        refine own_go (fun t_ k => XS.iconst X76.here hx rfl (hb hby at_146) k) ?_
        show WP p e below _ (T76.setTop (mkF m 147 #[.val (.long q1), .second, .val (.long q2), .second, .val (.long q3), .second, .val (.int p4), .val (.int p5), .val (.int (3 : Int32)), .val (.ref b57), .val (.int vi66), .val (.long vj68), .second, .val (.long vj70), .second] [(.int (0 : Int32))]))
        exact J75 T76 _ X76 N76 e76 _ (by rw [if_pos hc107_73, if_neg hc122_77])
    · refine own_go (fun t_ k => XS.icmpYes X71.here hx rfl (pc0 := 107) (pc' := 146) rfl (hb hby at_107) rfl (feq hc107_73).2 (by decide) (by decide) k) ?_
      show WP p e below _ (T71.setTop (mkF m 146 #[.val (.long q1), .second, .val (.long q2), .second, .val (.long q3), .second, .val (.int p4), .val (.int p5), .val (.int (3 : Int32)), .val (.ref b57), .val (.int vi66), .val (.long vj68), .second, .val (.long vj70), .second] []))
      refine own_go (fun t_ k => XS.iconst X71.here hx rfl (hb hby at_146) k) ?_
      show WP p e below _ (T71.setTop (mkF m 147 #[.val (.long q1), .second, .val (.long q2), .second, .val (.long q3), .second, .val (.int p4), .val (.int p5), .val (.int (3 : Int32)), .val (.ref b57), .val (.int vi66), .val (.long vj68), .second, .val (.long vj70), .second] [(.int (0 : Int32))]))
      exact J75 T71 _ X71 N71 e71 _ (by rw [if_neg hc107_73])
set_option maxRecDepth 65536 in
set_option maxHeartbeats 40000000 in
theorem comes_1 {Post : Tables → Env → Array Value → State → Outcome → State → Prop} (hpost : ∀ tb e args s v u, (limb_1_1.after args s (.returned v) u = true ∧ limb_1_2.after args s (.returned v) u = true ∧ True) → FrameEnd s (.returned v) u (Jvm.fieldLocs frame_1_writes args s ++ Jvm.arrayLocs frame_1_arrays args s ++ Jvm.staticLocs frame_1_statics s) 16 2176 → Post tb e args s (.returned v) u) :
    ArmFor flags0 classFile x code maxLocals ret World_1 tables_1 room_1 Calls_1 rest_1 Pre_1 Post := by
  intro l hfl _ _ p e ha hc hk s m args below hf hA hF happ hP
  obtain ⟨hcalls, hrest, hpre⟩ := hP
  obtain ⟨-, -, -, hnamed, -, -, -, hat⟩ := (Spec.applies_iff hf).mp happ
  obtain ⟨hg, hn⟩ := and_e (Cond.before_iff.mp (show (Jvm.Cond.and given_1 narrow_1).before args s = true from hpre))
  obtain ⟨g1, g2⟩ := and_e hg
  obtain ⟨g3, g4⟩ := and_e g2
  obtain ⟨g5, g6⟩ := and_e g4
  obtain ⟨g7, g8⟩ := and_e g6
  obtain ⟨g9, g10⟩ := and_e g8
  obtain ⟨w0, w1, w2, w3, w4, rfl⟩ : ∃ w0 w1 w2 w3 w4 : Value, args = #[w0, w1, w2, w3, w4] := by
    have hs : args.size = 5 := by simpa [Cond.value, given_1] using g1
    obtain ⟨L⟩ := args
    match L, hs with
    | [w0, w1, w2, w3, w4], _ => exact ⟨w0, w1, w2, w3, w4, rfl⟩
  have hw := fun d (hd : d ∈ tables_1) => atoms_spec (ws := Jvm.Cond.code x code maxLocals ret :: tables_1) hat d (List.mem_cons_of_mem _ hd)
  have hfit : Fit s := fun {y c} hc i hi => by
    obtain ⟨ha, rfl⟩ := Array.getElem?_eq_some_iff.mp hc
    have q := List.all_eq_true.mp ((Array.all_eq_true_iff_forall_mem.mp hF) _ (Array.getElem_mem ha)) i (List.mem_range.mpr hi)
    simpa [Array.getElem?_eq_getElem hi] using q
  obtain ⟨i0, ei0⟩ := isL_v g3
  obtain rfl : w0 = (.long i0) := Option.some.inj ei0
  obtain ⟨i1, ei1⟩ := isL_v g5
  obtain rfl : w1 = (.long i1) := Option.some.inj ei1
  obtain ⟨i2, ei2⟩ := isL_v g7
  obtain rfl : w2 = (.long i2) := Option.some.inj ei2
  obtain ⟨i3, ei3⟩ := is_v g9
  obtain rfl : w3 = (.int i3) := Option.some.inj ei3
  obtain ⟨i4, ei4⟩ := is_v g10
  obtain rfl : w4 = (.int i4) := Option.some.inj ei4
  obtain ⟨n, o, h1, h2, h3, _, L, rfl, ⟨rfl, N⟩, hq⟩ := rm0 l s _ hw tables_1 i0 i1 i2 i3 i4 s.heap s.heap.size (Nat.le_refl _) p e ha hc hk s m _ below hf ((Spec.applies_iff_loose hf).mp happ).1 ⟨rfl, State.Warmed39.refl s, rfl⟩ trivial
  refine ⟨n, _, h1, h2, h3, hpost _ _ _ _ _ _ ⟨Cond.after_iff.mpr rfl, Cond.after_iff.mpr (eq_i res_at (Term.int_eval (1)) rfl), trivial⟩ ⟨hq.1, hq.2.1, (hq.2.2.sift fun y hy => Or.inr (N y hy)).mono (by decide) (by decide)⟩⟩
theorem main_1_1 : Claimed_1_1 := comes_1 fun _ _ _ _ _ _ h hF => ⟨h.1, hF⟩
theorem main_1_2 : Claimed_1_2 := comes_1 fun _ _ _ _ _ _ h hF => ⟨h.2.1, hF⟩
end Jvm.Pilot.@@N@@
namespace Jvm.Pilot.@@N@@
open Jvm Jvm.ClassFile Sem Op Lib Jvm.Free Jvm.Stand Jvm.Pilot.@@N@@.Jvm.D
/-! MADE BY PROGRAM (witnessworld.py) out of the Statement's table words and the real class files: 13 classes; the members and pool entries that the words name. The judged class is class 1, her method 2. -/
namespace start1
open Jvm.ClassFile
def u (s : String) : CpInfo := .utf8 (stringToUtf16 s)
/-- a pool by its gaps: so many unusable entries, then the entry; so many at the end -/
def gap : Nat → List CpInfo → List CpInfo
  | 0, r => r
  | n + 1, r => .unusable :: gap n r
def poolList (es : List (Nat × CpInfo)) (last : Nat) : List CpInfo := es.foldr (fun e r => gap e.1 (e.2 :: r)) (gap last [])
def pool (es : List (Nat × CpInfo)) (last : Nat) : Array CpInfo := ⟨poolList es last⟩
def fileOf (pool : Array CpInfo) (this : Nat) (attrs : Array Attribute := #[]) (ms : Array MethodInfo := #[]) (fl : Nat := 33) (sup : Nat := 0) (ifs : Array Nat := #[]) (fds : Array FieldInfo := #[]) : ClassFile where
  minorVersion := 0
  majorVersion := 65
  constantPool := pool
  accessFlags := fl
  thisClass := this
  superClass := sup
  interfaces := ifs
  fields := fds
  methods := ms
  attributes := attrs
def plain (name : String) (sup : Option ClassId) : Class where
  name := name
  kind := .ordinary
  loader := none
  accessFlags := 33
  super := sup
  interfaces := #[]
  cf := none
  fields := #[]
  methods := #[]
  instanceTypes := #[]
  staticTypes := #[]
  resolved := #[]
  callSites := []
  init := .initialized
  statics := none
  mirror := none

def pool0 : Array CpInfo := pool [(5, u "<init>"), (0, u "()V"), (1, .class_ 10), (1, u "java/lang/Object")] 113

def k0c0 : Code := { maxStack := 0, maxLocals := 1, code := object_method_1_code, exceptionTable := #[], attributes := #[] }
def k0m0 : Method := { name := "<init>", desc := "()V", sig := { parameters := [], returnType := none }, accessFlags := 1, code := some k0c0 }
/-- java/lang/Object -/
def k0 : Class := { plain "java/lang/Object" none with
  accessFlags := 33
  interfaces := #[]
  cf := some (fileOf pool0 8 #[] #[{ accessFlags := 1, nameIndex := 5, descriptorIndex := 6, attributes := #[] }] 33 0 #[] #[])
  fields := #[]
  methods := #[k0m0]
  instanceTypes := #[]
  staticTypes := #[]
  resolved := Array.replicate 124 none
  statics := none }

def pool1 : Array CpInfo := pool [(2, .class_ 4), (0, .nameAndType 5 6), (0, u "java/lang/Object"), (0, u "<init>"), (0, u "()V"), (0, .class_ 8), (0, u "com/example/vestry/vestry/Longs"), (0, .methodref 7 3), (0, .methodref 7 11), (0, .nameAndType 12 13), (0, u "add"), (0, u "(J)V"), (0, .methodref 7 15), (0, .nameAndType 16 17), (0, u "size"), (0, u "()I"), (0, .integer 2147483647), (0, .methodref 7 20), (0, .nameAndType 21 22), (0, u "get"), (0, u "(I)J"), (0, .methodref 24 25), (0, .class_ 26), (0, .nameAndType 27 28), (0, u "com/example/vestry/vestry/LongsGetPinLaw"), (0, u "nth"), (0, u "(IJJJ)J"), (3, u "law"), (0, u "(JJJII)Z")] 2

def k1m0 : Method := { name := "<init>", desc := "()V", sig := { parameters := [], returnType := none }, accessFlags := 2, code := none }
def k1c1 : Code := { maxStack := 2, maxLocals := 7, code := method_2_code, exceptionTable := #[], attributes := #[] }
def k1m1 : Method := { name := "nth", desc := "(IJJJ)J", sig := { parameters := [.int, .long, .long, .long], returnType := some .long }, accessFlags := 10, code := some k1c1 }
def k1c2 : Code := { maxStack := 9, maxLocals := 15, code := code, exceptionTable := #[], attributes := #[] }
def k1m2 : Method := { name := "law", desc := "(JJJII)Z", sig := { parameters := [.long, .long, .long, .int, .int], returnType := some .boolean }, accessFlags := 9, code := some k1c2 }
/-- com/example/vestry/vestry/LongsGetPinLaw -/
def k1 : Class := { plain "com/example/vestry/vestry/LongsGetPinLaw" (some 0) with
  accessFlags := 49
  interfaces := #[]
  cf := some (fileOf pool1 24 #[] #[{ accessFlags := 2, nameIndex := 5, descriptorIndex := 6, attributes := #[] }, { accessFlags := 10, nameIndex := 27, descriptorIndex := 28, attributes := #[] }, { accessFlags := 9, nameIndex := 32, descriptorIndex := 33, attributes := #[] }] 49 2 #[] #[])
  fields := #[]
  methods := #[k1m0, k1m1, k1m2]
  instanceTypes := #[]
  staticTypes := #[]
  resolved := Array.replicate 36 none
  statics := none }

def pool2 : Array CpInfo := pool [(3, .class_ 4), (0, u "com/example/vestry/vestry/Longs"), (0, .methodref 3 6), (0, .nameAndType 7 8), (0, u "<init>"), (0, u "([JI)V"), (0, .methodref 10 11), (0, .class_ 12), (0, .nameAndType 7 13), (0, u "java/lang/Object"), (0, u "()V"), (0, .fieldref 3 15), (0, .nameAndType 16 17), (0, u "values"), (0, u "[J"), (0, .fieldref 3 19), (0, .nameAndType 20 21), (0, u "size"), (0, u "I"), (0, .integer 2147483639), (7, .long 2), (1, .long 1024), (7, .long 2147483639), (10, .methodref 52 53), (0, .class_ 54), (0, .nameAndType 55 56), (0, u "java/util/Objects"), (0, u "checkIndex"), (0, u "(II)I"), (2, u "get"), (0, u "(I)J"), (4, u "MOST"), (1, u "INITIAL"), (3, u "add"), (0, u "(J)V"), (1, u "()I")] 6

def k2c0 : Code := { maxStack := 3, maxLocals := 1, code := prog_23_method_1_code, exceptionTable := #[], attributes := #[] }
def k2m0 : Method := { name := "<init>", desc := "()V", sig := { parameters := [], returnType := none }, accessFlags := 0, code := some k2c0 }
def k2c1 : Code := { maxStack := 2, maxLocals := 3, code := prog_23_method_2_code, exceptionTable := #[], attributes := #[] }
def k2m1 : Method := { name := "<init>", desc := "([JI)V", sig := { parameters := [(.array .long), .int], returnType := none }, accessFlags := 2, code := some k2c1 }
def k2c2 : Code := { maxStack := 6, maxLocals := 5, code := prog_23_method_3_code, exceptionTable := #[], attributes := #[] }
def k2m2 : Method := { name := "add", desc := "(J)V", sig := { parameters := [.long], returnType := none }, accessFlags := 0, code := some k2c2 }
def k2c3 : Code := { maxStack := 2, maxLocals := 2, code := prog_23_method_4_code, exceptionTable := #[], attributes := #[] }
def k2m3 : Method := { name := "get", desc := "(I)J", sig := { parameters := [.int], returnType := some .long }, accessFlags := 0, code := some k2c3 }
def k2c4 : Code := { maxStack := 1, maxLocals := 1, code := prog_23_method_5_code, exceptionTable := #[], attributes := #[] }
def k2m4 : Method := { name := "size", desc := "()I", sig := { parameters := [], returnType := some .int }, accessFlags := 0, code := some k2c4 }
/-- com/example/vestry/vestry/Longs -/
def k2 : Class := { plain "com/example/vestry/vestry/Longs" (some 0) with
  accessFlags := 32
  interfaces := #[]
  cf := some (fileOf pool2 3 #[] #[{ accessFlags := 0, nameIndex := 7, descriptorIndex := 13, attributes := #[] }, { accessFlags := 2, nameIndex := 7, descriptorIndex := 8, attributes := #[] }, { accessFlags := 0, nameIndex := 71, descriptorIndex := 72, attributes := #[] }, { accessFlags := 0, nameIndex := 59, descriptorIndex := 60, attributes := #[] }, { accessFlags := 0, nameIndex := 20, descriptorIndex := 74, attributes := #[] }] 32 10 #[] #[{ accessFlags := 24, nameIndex := 65, descriptorIndex := 21, attributes := #[] }, { accessFlags := 26, nameIndex := 67, descriptorIndex := 21, attributes := #[] }, { accessFlags := 2, nameIndex := 16, descriptorIndex := 17, attributes := #[] }, { accessFlags := 2, nameIndex := 20, descriptorIndex := 21, attributes := #[] }])
  fields := #[{ name := "MOST", type := .int, accessFlags := 24, slot := 0, constantValue := 0 }, { name := "INITIAL", type := .int, accessFlags := 26, slot := 1, constantValue := 0 }, { name := "values", type := (.array .long), accessFlags := 2, slot := 0, constantValue := 0 }, { name := "size", type := .int, accessFlags := 2, slot := 1, constantValue := 0 }]
  methods := #[k2m0, k2m1, k2m2, k2m3, k2m4]
  instanceTypes := #[(.array .long), .int]
  staticTypes := #[.int, .int]
  resolved := Array.replicate 81 none
  statics := none }

def pool3 : Array CpInfo := pool [(2, .class_ 4), (1, u "java/lang/Object"), (0, u "<init>"), (0, u "()V"), (35, .class_ 44), (1, u "java/util/Objects"), (60, .methodref 106 107), (0, .class_ 108), (0, .nameAndType 109 110), (0, u "jdk/internal/util/Preconditions"), (0, u "checkIndex"), (0, u "(IILjava/util/function/BiFunction;)I"), (60, u "(II)I")] 12

def k3m0 : Method := { name := "<init>", desc := "()V", sig := { parameters := [], returnType := none }, accessFlags := 2, code := none }
def k3c1 : Code := { maxStack := 3, maxLocals := 2, code := jdk_31_method_17_code, exceptionTable := #[], attributes := #[] }
def k3m1 : Method := { name := "checkIndex", desc := "(II)I", sig := { parameters := [.int, .int], returnType := some .int }, accessFlags := 9, code := some k3c1 }
/-- java/util/Objects -/
def k3 : Class := { plain "java/util/Objects" (some 0) with
  accessFlags := 49
  interfaces := #[]
  cf := some (fileOf pool3 42 #[] #[{ accessFlags := 2, nameIndex := 5, descriptorIndex := 6, attributes := #[] }, { accessFlags := 9, nameIndex := 109, descriptorIndex := 171, attributes := #[] }] 49 2 #[] #[])
  fields := #[]
  methods := #[k3m0, k3m1]
  instanceTypes := #[]
  staticTypes := #[]
  resolved := Array.replicate 184 none
  statics := none }

def pool4 : Array CpInfo := pool [(2, .class_ 4), (1, u "java/lang/Object"), (0, u "<init>"), (0, u "()V"), (17, .class_ 26), (1, u "jdk/internal/util/Preconditions"), (6, u "checkIndex"), (21, .class_ 56), (0, u "jdk/internal/util/Preconditions$4"), (57, .class_ 115), (0, u "jdk/internal/util/Preconditions$1"), (7, u "SIOOBE_FORMATTER"), (0, u "Ljava/util/function/BiFunction;"), (0, .class_ 126), (0, u "jdk/internal/util/Preconditions$2"), (3, u "AIOOBE_FORMATTER"), (0, .class_ 132), (0, u "jdk/internal/util/Preconditions$3"), (3, u "IOOBE_FORMATTER"), (41, u "(IILjava/util/function/BiFunction;)I")] 15

def k4m0 : Method := { name := "<init>", desc := "()V", sig := { parameters := [], returnType := none }, accessFlags := 1, code := none }
def k4c1 : Code := { maxStack := 3, maxLocals := 3, code := jdk_41_method_11_code, exceptionTable := #[], attributes := #[] }
def k4m1 : Method := { name := "checkIndex", desc := "(IILjava/util/function/BiFunction;)I", sig := { parameters := [.int, .int, (.object "java/util/function/BiFunction")], returnType := some .int }, accessFlags := 9, code := some k4c1 }
/-- jdk/internal/util/Preconditions -/
def k4 : Class := { plain "jdk/internal/util/Preconditions" (some 0) with
  accessFlags := 33
  interfaces := #[]
  cf := some (fileOf pool4 24 #[.nestMembers #[55, 131, 125, 114]] #[{ accessFlags := 1, nameIndex := 5, descriptorIndex := 6, attributes := #[] }, { accessFlags := 9, nameIndex := 33, descriptorIndex := 178, attributes := #[] }] 33 2 #[] #[{ accessFlags := 25, nameIndex := 123, descriptorIndex := 124, attributes := #[] }, { accessFlags := 25, nameIndex := 130, descriptorIndex := 124, attributes := #[] }, { accessFlags := 25, nameIndex := 136, descriptorIndex := 124, attributes := #[] }])
  fields := #[{ name := "SIOOBE_FORMATTER", type := (.object "java/util/function/BiFunction"), accessFlags := 25, slot := 0, constantValue := 0 }, { name := "AIOOBE_FORMATTER", type := (.object "java/util/function/BiFunction"), accessFlags := 25, slot := 1, constantValue := 0 }, { name := "IOOBE_FORMATTER", type := (.object "java/util/function/BiFunction"), accessFlags := 25, slot := 2, constantValue := 0 }]
  methods := #[k4m0, k4m1]
  instanceTypes := #[]
  staticTypes := #[(.object "java/util/function/BiFunction"), (.object "java/util/function/BiFunction"), (.object "java/util/function/BiFunction")]
  resolved := Array.replicate 194 none
  statics := none }

def pool5 : Array CpInfo := pool [(1, u "java/lang/Cloneable"), (0, .class_ 1), (0, u "java/lang/Object"), (0, .class_ 3)] 3

/-- java/lang/Cloneable -/
def k5 : Class := { plain "java/lang/Cloneable" (some 0) with
  accessFlags := 1537
  interfaces := #[]
  cf := some (fileOf pool5 2 #[] #[] 1537 4 #[] #[])
  fields := #[]
  methods := #[]
  instanceTypes := #[]
  staticTypes := #[]
  resolved := Array.replicate 8 none
  statics := none }

def pool6 : Array CpInfo := pool [(1, u "java/io/Serializable"), (0, .class_ 1), (0, u "java/lang/Object"), (0, .class_ 3)] 3

/-- java/io/Serializable -/
def k6 : Class := { plain "java/io/Serializable" (some 0) with
  accessFlags := 1537
  interfaces := #[]
  cf := some (fileOf pool6 2 #[] #[] 1537 4 #[] #[])
  fields := #[]
  methods := #[]
  instanceTypes := #[]
  staticTypes := #[]
  resolved := Array.replicate 8 none
  statics := none }

/-- the primitive byte -/
def k7 : Class := { plain "byte" none with kind := .primitive 'B', accessFlags := 0x411 }
/-- [B -/
def k8 : Class := { plain "[B" (some 0) with kind := .array 7 .byte, interfaces := #[5, 6], accessFlags := 1041 }

/-- the primitive int -/
def k9 : Class := { plain "int" none with kind := .primitive 'I', accessFlags := 0x411 }
/-- [I -/
def k10 : Class := { plain "[I" (some 0) with kind := .array 9 .int, interfaces := #[5, 6], accessFlags := 1041 }

/-- the primitive long -/
def k11 : Class := { plain "long" none with kind := .primitive 'J', accessFlags := 0x411 }
/-- [J -/
def k12 : Class := { plain "[J" (some 0) with kind := .array 11 .long, interfaces := #[5, 6], accessFlags := 1041 }

def heap : Heap := #[]
def classes : Array Class := #[k0, k1, k2, k3, k4, k5, k6, k7, k8, k9, k10, k11, k12]
def interned : List (Array UInt16 × Addr) := []
def slotsUsed : Nat := 0
def theMethod : MethodId := ⟨1, 2⟩
def args0 : Array Value := #[.long 5, .long 6, .long 7, .int 1, .int 5]
def aboutOver (below : List Frame) : State where
  vm := { classes := classes, interned := interned.toArray }
  heap := heap
  slotsUsed := slotsUsed
  threads := #[{ frames := .invoking theMethod args0 :: below }]
def below0 : List Frame := [.native { method := ⟨0, 0⟩, args := #[] }]
def about1 : State := aboutOver below0
def p0 : Program := .bare "" "" ""
def e0 : Env := launch0.env 0 0 0
theorem w_frames : about1.frames = Frame.invoking theMethod args0 :: below0 := rfl
set_option maxRecDepth 65536 in
theorem w_args : argsFit about1.vm theMethod args0 = true := by decide +kernel
set_option maxRecDepth 65536 in
theorem w_heap : heapFits about1 = true := by decide +kernel
set_option maxRecDepth 65536 in
theorem w_runnable : about1.curStatus? = some .runnable := by decide +kernel
set_option maxRecDepth 65536 in
theorem w_alone : about1.alone = true := by decide +kernel
set_option maxRecDepth 65536 in
theorem w_named : about1.methodNamed? x = some theMethod := by decide +kernel
set_option maxRecDepth 65536 in
theorem w_hears : about1.hears theMethod below0 = true := by decide +kernel
set_option maxRecDepth 65536 in
theorem w_ripe : about1.ripe theMethod args0 below0 = true := by decide +kernel
theorem w_running : about1.status = .running := rfl
set_option maxRecDepth 65536 in
theorem w_room : about1.hasRoom e0.platform room_1 = true :=
  launch0.hasRoom_least _ room_1 (by decide +kernel) (by decide +kernel) (by decide +kernel) (by decide +kernel) (by decide +kernel) (by decide +kernel)
theorem allAtoms_all (ts : List Jvm.Cond) (a : Array Jvm.Value) (st : Jvm.State) : (allAtoms ts).before a st = ts.all (fun c => c.before a st) := by
  induction ts with
  | nil => rfl
  | cons c t ih =>
    show (Jvm.Cond.and c (allAtoms t)).before a st = _
    rw [Jvm.Cond.before_and, ih, List.all_cons]
def words1 : List Jvm.Cond := Jvm.Cond.code x code maxLocals ret :: tables_1
/-- a 'code' word, met by the world's own term for the bytes: nothing is compared byte by byte -/
theorem code_word {y : MethodName} {bytes : ByteArray} {mx : Nat} {rt : Option FieldType} {a : Array Value} {s : State} {m : MethodId} {meth : Method} {c : Code} (h1 : s.methodNamed? y = some m) (h2 : s.vm.method? m = some meth) (h3 : meth.code = some c) (h4 : c.code = bytes)
    (h5 : (c.maxLocals == mx && c.exceptionTable.isEmpty && decide (c.maxStack ≤ mostOperands) && decide (meth.sig.returnType = rt) && !meth.locks && decide (parseMethodDescriptor y.desc = some meth.sig)) = true) : (Jvm.Cond.code y bytes mx rt).before a s = true := by
  simp only [Bool.and_eq_true, beq_iff_eq, Bool.not_eq_true', decide_eq_true_eq] at h5
  obtain ⟨⟨⟨⟨⟨g1, g2⟩, g3⟩, g4⟩, g5⟩, g6⟩ := h5
  simp [Cond.before, Cond.holds, Cond.value, h1, h2, h3, h4, g1, g2, g3, g4, g5, g6]
def isCode : Jvm.Cond → Bool
  | .code _ _ _ _ => true
  | _ => false
theorem all_split {L : List Jvm.Cond} {P : Jvm.Cond → Bool} (h1 : L.all (fun c => isCode c || P c) = true) (h2 : ∀ c ∈ L.filter isCode, P c = true) : L.all P = true := by
  refine List.all_eq_true.mpr fun c hc => ?_
  have h := List.all_eq_true.mp h1 c hc
  rcases Bool.eq_false_or_eq_true (isCode c) with hi | hi
  · exact h2 c (List.mem_filter.mpr ⟨hc, hi⟩)
  · simpa [hi] using h
set_option maxRecDepth 65536 in
theorem w_c0 : (Jvm.Cond.code x code maxLocals ret).before args0 about1 = true := code_word (m := ⟨1, 2⟩) (meth := k1m2) (c := k1c2) (by decide +kernel) rfl rfl rfl (by decide +kernel)
set_option maxRecDepth 65536 in
theorem w_c1 : (Jvm.Cond.code ({ cls := "com/example/vestry/vestry/Longs", name := "<init>", desc := "()V" } : Jvm.MethodName) prog_23_method_1_code (1 : Nat) (Option.none : Option Jvm.ClassFile.FieldType)).before args0 about1 = true := code_word (m := ⟨2, 0⟩) (meth := k2m0) (c := k2c0) (by decide +kernel) rfl rfl rfl (by decide +kernel)
set_option maxRecDepth 65536 in
theorem w_c2 : (Jvm.Cond.code ({ cls := "com/example/vestry/vestry/Longs", name := "<init>", desc := "([JI)V" } : Jvm.MethodName) prog_23_method_2_code (3 : Nat) (Option.none : Option Jvm.ClassFile.FieldType)).before args0 about1 = true := code_word (m := ⟨2, 1⟩) (meth := k2m1) (c := k2c1) (by decide +kernel) rfl rfl rfl (by decide +kernel)
set_option maxRecDepth 65536 in
theorem w_c3 : (Jvm.Cond.code ({ cls := "java/lang/Object", name := "<init>", desc := "()V" } : Jvm.MethodName) object_method_1_code (1 : Nat) (Option.none : Option Jvm.ClassFile.FieldType)).before args0 about1 = true := code_word (m := ⟨0, 0⟩) (meth := k0m0) (c := k0c0) (by decide +kernel) rfl rfl rfl (by decide +kernel)
set_option maxRecDepth 65536 in
theorem w_c4 : (Jvm.Cond.code ({ cls := "com/example/vestry/vestry/Longs", name := "add", desc := "(J)V" } : Jvm.MethodName) prog_23_method_3_code (5 : Nat) (Option.none : Option Jvm.ClassFile.FieldType)).before args0 about1 = true := code_word (m := ⟨2, 2⟩) (meth := k2m2) (c := k2c2) (by decide +kernel) rfl rfl rfl (by decide +kernel)
set_option maxRecDepth 65536 in
theorem w_c5 : (Jvm.Cond.code ({ cls := "com/example/vestry/vestry/Longs", name := "get", desc := "(I)J" } : Jvm.MethodName) prog_23_method_4_code (2 : Nat) (Option.some Jvm.ClassFile.FieldType.long)).before args0 about1 = true := code_word (m := ⟨2, 3⟩) (meth := k2m3) (c := k2c3) (by decide +kernel) rfl rfl rfl (by decide +kernel)
set_option maxRecDepth 65536 in
theorem w_c6 : (Jvm.Cond.code ({ cls := "java/util/Objects", name := "checkIndex", desc := "(II)I" } : Jvm.MethodName) jdk_31_method_17_code (2 : Nat) (Option.some Jvm.ClassFile.FieldType.int)).before args0 about1 = true := code_word (m := ⟨3, 1⟩) (meth := k3m1) (c := k3c1) (by decide +kernel) rfl rfl rfl (by decide +kernel)
set_option maxRecDepth 65536 in
theorem w_c7 : (Jvm.Cond.code ({ cls := "jdk/internal/util/Preconditions", name := "checkIndex", desc := "(IILjava/util/function/BiFunction;)I" } : Jvm.MethodName) jdk_41_method_11_code (3 : Nat) (Option.some Jvm.ClassFile.FieldType.int)).before args0 about1 = true := code_word (m := ⟨4, 1⟩) (meth := k4m1) (c := k4c1) (by decide +kernel) rfl rfl rfl (by decide +kernel)
set_option maxRecDepth 65536 in
theorem w_c8 : (Jvm.Cond.code ({ cls := "com/example/vestry/vestry/Longs", name := "size", desc := "()I" } : Jvm.MethodName) prog_23_method_5_code (1 : Nat) (Option.some Jvm.ClassFile.FieldType.int)).before args0 about1 = true := code_word (m := ⟨2, 4⟩) (meth := k2m4) (c := k2c4) (by decide +kernel) rfl rfl rfl (by decide +kernel)
set_option maxRecDepth 65536 in
theorem w_c9 : (Jvm.Cond.code ({ cls := "com/example/vestry/vestry/LongsGetPinLaw", name := "nth", desc := "(IJJJ)J" } : Jvm.MethodName) method_2_code (7 : Nat) (Option.some Jvm.ClassFile.FieldType.long)).before args0 about1 = true := code_word (m := ⟨1, 1⟩) (meth := k1m1) (c := k1c1) (by decide +kernel) rfl rfl rfl (by decide +kernel)
def codes1 : List Jvm.Cond := [Jvm.Cond.code x code maxLocals ret, Jvm.Cond.code ({ cls := "com/example/vestry/vestry/Longs", name := "<init>", desc := "()V" } : Jvm.MethodName) prog_23_method_1_code (1 : Nat) (Option.none : Option Jvm.ClassFile.FieldType), Jvm.Cond.code ({ cls := "com/example/vestry/vestry/Longs", name := "<init>", desc := "([JI)V" } : Jvm.MethodName) prog_23_method_2_code (3 : Nat) (Option.none : Option Jvm.ClassFile.FieldType), Jvm.Cond.code ({ cls := "java/lang/Object", name := "<init>", desc := "()V" } : Jvm.MethodName) object_method_1_code (1 : Nat) (Option.none : Option Jvm.ClassFile.FieldType), Jvm.Cond.code ({ cls := "com/example/vestry/vestry/Longs", name := "add", desc := "(J)V" } : Jvm.MethodName) prog_23_method_3_code (5 : Nat) (Option.none : Option Jvm.ClassFile.FieldType), Jvm.Cond.code ({ cls := "com/example/vestry/vestry/Longs", name := "get", desc := "(I)J" } : Jvm.MethodName) prog_23_method_4_code (2 : Nat) (Option.some Jvm.ClassFile.FieldType.long), Jvm.Cond.code ({ cls := "java/util/Objects", name := "checkIndex", desc := "(II)I" } : Jvm.MethodName) jdk_31_method_17_code (2 : Nat) (Option.some Jvm.ClassFile.FieldType.int), Jvm.Cond.code ({ cls := "jdk/internal/util/Preconditions", name := "checkIndex", desc := "(IILjava/util/function/BiFunction;)I" } : Jvm.MethodName) jdk_41_method_11_code (3 : Nat) (Option.some Jvm.ClassFile.FieldType.int), Jvm.Cond.code ({ cls := "com/example/vestry/vestry/Longs", name := "size", desc := "()I" } : Jvm.MethodName) prog_23_method_5_code (1 : Nat) (Option.some Jvm.ClassFile.FieldType.int), Jvm.Cond.code ({ cls := "com/example/vestry/vestry/LongsGetPinLaw", name := "nth", desc := "(IJJJ)J" } : Jvm.MethodName) method_2_code (7 : Nat) (Option.some Jvm.ClassFile.FieldType.long)]
set_option maxRecDepth 65536 in
theorem codes_eq : words1.filter isCode = codes1 := rfl
theorem w_codes : ∀ c ∈ words1.filter isCode, c.before args0 about1 = true := by
  rw [codes_eq]
  intro c hc
  simp only [codes1, List.mem_cons, List.not_mem_nil, or_false] at hc
  rcases hc with rfl | rfl | rfl | rfl | rfl | rfl | rfl | rfl | rfl | rfl
  · exact w_c0
  · exact w_c1
  · exact w_c2
  · exact w_c3
  · exact w_c4
  · exact w_c5
  · exact w_c6
  · exact w_c7
  · exact w_c8
  · exact w_c9
set_option maxRecDepth 65536 in
theorem w_t1 : (words1.take 24).all (fun c => isCode c || c.before args0 about1) = true := by decide +kernel
set_option maxRecDepth 65536 in
theorem w_t2 : ((words1.drop 24).take 24).all (fun c => isCode c || c.before args0 about1) = true := by decide +kernel
set_option maxRecDepth 65536 in
theorem w_t3 : ((words1.drop 24).drop 24).all (fun c => isCode c || c.before args0 about1) = true := by decide +kernel
theorem w_tables : (allAtoms (Jvm.Cond.code x code maxLocals ret :: tables_1)).before args0 about1 = true := by
  rw [allAtoms_all]
  show words1.all (fun c => c.before args0 about1) = true
  refine all_split ?_ w_codes
  rw [← List.take_append_drop 24 words1, List.all_append, w_t1, ← List.take_append_drop 24 (words1.drop 24), List.all_append, w_t2, w_t3]
  rfl
set_option maxRecDepth 65536 in
theorem w_case : (Jvm.Cond.and given_1 narrow_1).before args0 about1 = true := by decide +kernel
theorem w_applies : (headSpec (Jvm.Cond.code x code maxLocals ret :: tables_1) room_1).applies x e0.platform about1 = true :=
  (Spec.applies_iff w_frames).mpr ⟨w_running, w_runnable, w_alone, w_named, w_hears, w_ripe, w_room, w_tables⟩
theorem atStart : AtStart classFile x code maxLocals ret World_1 tables_1 room_1 Calls_1 rest_1 Pre_1 launch0 p0 e0 about1 theMethod args0 below0 :=
  ⟨lists_1, trivial, launch0.admits_env _ _ _, launch0.least_env, fairChoices_fair.cas, fairChoices_fair.clock, w_frames, w_args, w_heap, w_applies, trivial, trivial, w_case⟩
end start1
theorem witness_1 : WitnessClaimed_1 := ⟨start1.p0, start1.e0, start1.about1, start1.theMethod, start1.args0, start1.below0, start1.atStart⟩
end Jvm.Pilot.@@N@@
