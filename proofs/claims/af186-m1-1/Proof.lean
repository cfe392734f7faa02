import JvmDerived
import JvmDerived.Pilot.@@N@@Statement
import JvmDerived.Pilot.@@N@@Code
set_option linter.unusedVariables false
set_option linter.unusedSimpArgs false
namespace Jvm.Pilot.@@N@@
open Jvm Jvm.ClassFile Sem Op Lib Jvm.Free Jvm.Stand Jvm.LawKit Jvm.RoadKit Bundle Jvm.Pilot.@@N@@.Jvm.D
/-! The end of a walk, as a goal: from U the run ends, and G holds of the end. -/
def WP (p : Program) (e : Env) (below : List Frame) (G : State → Outcome → Prop) (U : State) : Prop :=
  ∃ s₂ o, Steps p.tables e below U s₂ ∧ s₂.status = .running ∧ Ended s₂ below o ∧ G s₂ o
def GG (Q : Option Value → Heap → List Loc → Prop) (s : State) (k n : Nat) : State → Outcome → Prop :=
  fun t o => ∃ v L, o = .returned v ∧ Q v t.heap L ∧ FrameEnd s o t L k n
theorem own_go {p : Program} {e : Env} {below : List Frame} {G : State → Outcome → Prop} {U V : State} (h : ∀ t, Steps p.tables e below V t → Steps p.tables e below U t) (w : WP p e below G V) : WP p e below G U := by
  obtain ⟨t, o, h1, h2⟩ := w
  exact ⟨t, o, h _ h1, h2⟩
/-- what a body that writes nothing leaves -/
def PQ (h0 : Heap) (n0 : Nat) (w : Value) (v : Option Value) (h : Heap) (L : List Loc) : Prop := v = some w ∧ Fr n0 L ∧ h = h0
/-- what the law leaves -/
def Q0 (n0 : Nat) (v : Option Value) (h : Heap) (L : List Loc) : Prop := v = some (.int 1) ∧ Fr n0 L
section Own
variable {p : Program} {l : Launch} {e : Env} {R : Room} {s : State} {m : MethodId} {args : Array Value} {below : List Frame} {meth : Method} {c : Code} {T : State} {locs : List Loc} {cells slots : Nat}
theorem own_mono (X : Stand p l e R s m args below meth c T locs cells slots) {k n : Nat} (h1 : cells ≤ k) (h2 : slots ≤ n) : Stand p l e R s m args below meth c T locs k n :=
  ⟨X.admits, X.cas, X.clock, X.frames, X.room, X.hears, X.method, X.code, X.here, X.tail, X.warmed, X.limits, X.bytes, X.same.mono h1 h2⟩
theorem own_retI (X : Stand p l e R s m args below meth c T locs cells slots) (hx : p.tables.exec = Jvm.exec) (hnl : meth.locks = false) (hret : meth.sig.returnType = some .int) {pc : Nat} {Ls : Array Slot} {z : Int32} {rest : List Value} (hd : decode c.code pc = .ok (.ireturn, 1)) {Q : Option Value → Heap → List Loc → Prop} {k n : Nat}
    (hq : Q (some (.int z)) T.heap locs) (hc : cells ≤ k) (hs : slots ≤ n) : WP p e below (GG Q s k n) (T.setTop (mkF m pc Ls (.int z :: rest))) := by
  obtain ⟨fs, hr, hrun, hended, hW, hsame⟩ := X.leave (v := some (.int z)) (fun h => by rw [hret] at h; cases h) hnl
  exact ⟨_, _, retOut X hx hret rfl (Or.inl ⟨rfl, Or.inl rfl, z, rfl⟩) hd hr, hrun, hended, _, _, rfl, hq, ⟨_, rfl⟩, hW, hsame.mono hc hs⟩
theorem own_retN (X : Stand p l e R s m args below meth c T locs cells slots) (hx : p.tables.exec = Jvm.exec) (hnl : meth.locks = false) {t : FieldType} (hret : meth.sig.returnType = some t) (ht : t = .boolean ∨ t = .byte ∨ t = .char ∨ t = .short) {pc : Nat} {Ls : Array Slot} {z : Int32} {rest : List Value} (hd : decode c.code pc = .ok (.ireturn, 1)) {Q : Option Value → Heap → List Loc → Prop} {k n : Nat}
    (hq : Q (some (.int (nar t z))) T.heap locs) (hc : cells ≤ k) (hs : slots ≤ n) : WP p e below (GG Q s k n) (T.setTop (mkF m pc Ls (.int z :: rest))) := by
  obtain ⟨fs, hr, hrun, hended, hW, hsame⟩ := X.leave (v := some (.int (nar t z))) (fun h => by rw [hret] at h; cases h) hnl
  exact ⟨_, _, retN X hx hret ht hd hr, hrun, hended, _, _, rfl, hq, ⟨_, rfl⟩, hW, hsame.mono hc hs⟩
theorem own_retZ (X : Stand p l e R s m args below meth c T locs cells slots) (hx : p.tables.exec = Jvm.exec) (hnl : meth.locks = false) (hret : meth.sig.returnType = some .boolean) {pc : Nat} {Ls : Array Slot} {z : Int32} {rest : List Value} (hd : decode c.code pc = .ok (.ireturn, 1)) (hz : z = 0 ∨ z = 1) {Q : Option Value → Heap → List Loc → Prop} {k n : Nat}
    (hq : Q (some (.int z)) T.heap locs) (hc : cells ≤ k) (hs : slots ≤ n) : WP p e below (GG Q s k n) (T.setTop (mkF m pc Ls (.int z :: rest))) := by
  have hb : nar .boolean z = z := by rcases hz with rfl | rfl <;> rfl
  exact own_retN X hx hnl hret (Or.inl rfl) hd (by rw [hb]; exact hq) hc hs
theorem own_retC (X : Stand p l e R s m args below meth c T locs cells slots) (hx : p.tables.exec = Jvm.exec) (hnl : meth.locks = false) (hret : meth.sig.returnType = some .char) {pc : Nat} {Ls : Array Slot} {z : Int32} {rest : List Value} (hd : decode c.code pc = .ok (.ireturn, 1)) {Q : Option Value → Heap → List Loc → Prop} {k n : Nat}
    (hq : Q (some (.int z.toUInt32.toUInt16.toUInt32.toInt32)) T.heap locs) (hc : cells ≤ k) (hs : slots ≤ n) : WP p e below (GG Q s k n) (T.setTop (mkF m pc Ls (.int z :: rest))) :=
  own_retN X hx hnl hret (Or.inr (Or.inr (Or.inl rfl))) hd hq hc hs
theorem own_retB (X : Stand p l e R s m args below meth c T locs cells slots) (hx : p.tables.exec = Jvm.exec) (hnl : meth.locks = false) (hret : meth.sig.returnType = some .byte) {pc : Nat} {Ls : Array Slot} {z : Int32} {rest : List Value} (hd : decode c.code pc = .ok (.ireturn, 1)) {Q : Option Value → Heap → List Loc → Prop} {k n : Nat}
    (hq : Q (some (.int z.toInt8.toInt32)) T.heap locs) (hc : cells ≤ k) (hs : slots ≤ n) : WP p e below (GG Q s k n) (T.setTop (mkF m pc Ls (.int z :: rest))) :=
  own_retN X hx hnl hret (Or.inr (Or.inl rfl)) hd hq hc hs
theorem own_retJ (X : Stand p l e R s m args below meth c T locs cells slots) (hx : p.tables.exec = Jvm.exec) (hnl : meth.locks = false) (hret : meth.sig.returnType = some .long) {pc : Nat} {Ls : Array Slot} {z : Int64} {rest : List Value} (hd : decode c.code pc = .ok (.lreturn, 1)) {Q : Option Value → Heap → List Loc → Prop} {k n : Nat}
    (hq : Q (some (.long z)) T.heap locs) (hc : cells ≤ k) (hs : slots ≤ n) : WP p e below (GG Q s k n) (T.setTop (mkF m pc Ls (.long z :: rest))) := by
  obtain ⟨fs, hr, hrun, hended, hW, hsame⟩ := X.leave (v := some (.long z)) (fun h => by rw [hret] at h; cases h) hnl
  exact ⟨_, _, retOut X hx hret rfl (Or.inr (Or.inl ⟨rfl, rfl, z, rfl⟩)) hd hr, hrun, hended, _, _, rfl, hq, ⟨_, rfl⟩, hW, hsame.mono hc hs⟩
theorem own_retA (X : Stand p l e R s m args below meth c T locs cells slots) (hx : p.tables.exec = Jvm.exec) (hnl : meth.locks = false) {t : FieldType} (hret : meth.sig.returnType = some t) (ht : t.isReference = true) {pc : Nat} {Ls : Array Slot} {w : Value} (hw : w.isRef = true) {rest : List Value} (hd : decode c.code pc = .ok (.areturn, 1)) {Q : Option Value → Heap → List Loc → Prop} {k n : Nat}
    (hq : Q (some w) T.heap locs) (hc : cells ≤ k) (hs : slots ≤ n) : WP p e below (GG Q s k n) (T.setTop (mkF m pc Ls (w :: rest))) := by
  obtain ⟨fs, hr, hrun, hended, hW, hsame⟩ := X.leave (v := some w) (fun h => by rw [hret] at h; cases h) hnl
  have hn : narrow t w = w := by cases t <;> first | rfl | (simp [FieldType.isReference] at ht)
  exact ⟨_, _, retOut X hx hret hn (Or.inr (Or.inr (Or.inr (Or.inr ⟨rfl, ht, hw⟩)))) hd hr, hrun, hended, _, _, rfl, hq, ⟨_, rfl⟩, hW, hsame.mono hc hs⟩
theorem own_ret0 (X : Stand p l e R s m args below meth c T locs cells slots) (hx : p.tables.exec = Jvm.exec) (hnl : meth.locks = false) (hret : meth.sig.returnType = none) {pc : Nat} {Ls : Array Slot} (hd : decode c.code pc = .ok (.return_, 1)) {Q : Option Value → Heap → List Loc → Prop} {k n : Nat}
    (hq : Q none T.heap locs) (hc : cells ≤ k) (hs : slots ≤ n) : WP p e below (GG Q s k n) (T.setTop (mkF m pc Ls [])) := by
  obtain ⟨fs, hr, hrun, hended, hW, hsame⟩ := X.leave (v := none) (fun _ => rfl) hnl
  exact ⟨_, _, X.returnOut hx hret hd hr, hrun, hended, _, _, rfl, hq, ⟨_, rfl⟩, hW, hsame.mono hc hs⟩
end Own

def BB0 (Z : State) (h : Heap) (a t : Addr) (k : ClassId) : Prop :=
  Exa Z h a "com/example/vestry/vestry/ByteBlocks" ∧ Fld Z h a "com/example/vestry/vestry/ByteBlocks" "blocks" "[[B" (.ref t) ∧ Fld Z h a "com/example/vestry/vestry/ByteBlocks" "size" "J" (.long (0 : Int64)) ∧ Arv Z h t k (.array .byte) (1 : Int32) [.null] .null ∧ a ≠ t
def BB (Z : State) (h : Heap) (a t : Addr) (k : ClassId) (b : Addr) (kb : ClassId) (n : Int64) (xs : List Int32) : Prop :=
  Exa Z h a "com/example/vestry/vestry/ByteBlocks" ∧ Fld Z h a "com/example/vestry/vestry/ByteBlocks" "blocks" "[[B" (.ref t) ∧ Fld Z h a "com/example/vestry/vestry/ByteBlocks" "size" "J" (.long n) ∧ Arv Z h t k (.array .byte) (1 : Int32) [.ref b] .null ∧ Arv Z h b kb .byte (65536 : Int32) (xs.map Value.int) (.int (0 : Int32)) ∧ a ≠ t ∧ a ≠ b ∧ t ≠ b
theorem own_put (xs : List Int32) (q : Int32) (n : Nat) (h : xs.length = n) : ((xs.map Value.int) ++ List.replicate 1 (Value.int (0 : Int32))).set n (.int q) = (xs ++ [q]).map Value.int := by
  subst h
  rw [List.set_append_right _ _ (by simp)]
  simp
theorem own_at (xs : List Int32) (i : Nat) : (xs.map Value.int).getD i (.int (0 : Int32)) = .int (xs.getD i 0) := by
  rw [List.getD_eq_getElem?_getD, List.getD_eq_getElem?_getD, List.getElem?_map]
  cases xs[i]? <;> rfl
theorem own_b8 (x : Int32) : x.toInt8.toInt32.toInt8.toInt32 = x.toInt8.toInt32 := by
  have a1 := c_i2b x
  have a2 := c_i2b x.toInt8.toInt32
  exact Int32.toInt_inj.mp (by omega)
theorem own_and3 {p v : Int32} (h : ((1 : Int32) + (p &&& (3 : Int32))) = v) : v = 1 ∨ v = 2 ∨ v = 3 ∨ v = 4 := by
  have a1 := c_mask p 3 2 (by decide) (by decide)
  have a2 := c_iadd 1 (p &&& 3)
  have r := rng32 v
  rw [h] at a2
  have o1 : (1 : Int32).toInt = 1 := rfl
  have o2 : (2 : Int32).toInt = 2 := rfl
  have o3 : (3 : Int32).toInt = 3 := rfl
  have o4 : (4 : Int32).toInt = 4 := rfl
  simp only [← Int32.toInt_inj]
  omega
def Q_rm_i (Z : State) (a1 : Addr) (h0 : Heap) (n0 : Nat) (v : Option Value) (h : Heap) (L : List Loc) : Prop := v = none ∧ Fr n0 L ∧ Keep h0 h [a1] ∧ ∃ t k, n0 ≤ t ∧ h0.size ≤ t ∧ BB0 Z h a1 t k ∧ OvrA Z k .byte "[B"
theorem d1_0 : decode prog_3_method_1_code 0 = .ok (.aload_n 0, 1) := by decide +kernel
theorem d1_1 : decode prog_3_method_1_code 1 = .ok (.invokespecial 3, 3) := by decide +kernel
theorem d1_4 : decode prog_3_method_1_code 4 = .ok (.aload_n 0, 1) := by decide +kernel
theorem d1_5 : decode prog_3_method_1_code 5 = .ok (.iconst 1, 1) := by decide +kernel
theorem d1_6 : decode prog_3_method_1_code 6 = .ok (.anewarray 9, 3) := by decide +kernel
theorem d1_9 : decode prog_3_method_1_code 9 = .ok (.putfield 11, 3) := by decide +kernel
theorem d1_12 : decode prog_3_method_1_code 12 = .ok (.return_, 1) := by decide +kernel
theorem pn_0 : plainName "com/example/vestry/vestry/ByteBlocks" = true := by first | (simp [plainName, overriddenIn]; done) | decide +kernel
theorem ef_rm_i (m : MethodId) (x0 : Addr) : entryFrame m #[(.ref x0)] 1 = mkF m 0 #[.val (.ref x0)] [] := by first | (simp [entryFrame, mkF, argsToLocals, Value.category]; done) | rfl
set_option maxRecDepth 65536 in
set_option maxHeartbeats 40000000 in
theorem rm_i (l : Launch) (Z : State) (a0 : Array Value) (hw : ∀ d ∈ tables_1, d.before a0 Z = true) (ws : List Jvm.Cond) (a1 : Addr) (h0 : Heap) (n0 : Nat) (Z0 : n0 ≤ h0.size) (E_a : Exa Z h0 a1 "com/example/vestry/vestry/ByteBlocks") (g_a : n0 ≤ a1) (F_b : Fld Z h0 a1 "com/example/vestry/vestry/ByteBlocks" "blocks" "[[B" .null) (F_s : Fld Z h0 a1 "com/example/vestry/vestry/ByteBlocks" "size" "J" (.long (0 : Int64))) :
    MetFree l (⟨"com/example/vestry/vestry/ByteBlocks", "<init>", "()V"⟩ : MethodName) (head1 (Jvm.Cond.code (⟨"com/example/vestry/vestry/ByteBlocks", "<init>", "()V"⟩ : MethodName) prog_3_method_1_code 1 none :: ws) ({ frames := 1, cells := 1, slots := 1, locals := 12 } : Room)) (fun a U => a = #[(.ref a1)] ∧ Z.Warmed39 U.vm ∧ U.heap = h0) (fun _ _ _ _ _ => True) (fun _ U o U' => ∃ v L, o = .returned v ∧ (Q_rm_i Z a1 h0 n0) v U'.heap L ∧ FrameEnd U o U' L ({ frames := 1, cells := 1, slots := 1, locals := 12 } : Room).cells ({ frames := 1, cells := 1, slots := 1, locals := 12 } : Room).slots) := by
  refine MetFree.of_bodySF (plainFor_of_name pn_0) hisR ?_
  intro p e s m args below meth c s₁ Bd hml0 hP hK
  obtain ⟨rfl, hZ, hh⟩ := hP
  have hx := Bd.exec
  have hby := Bd.bytes
  have hml : c.maxLocals = 1 := hml0
  have hown : s.vm.findClass "com/example/vestry/vestry/ByteBlocks" = some m.cls := findClass_of_methodNamed Bd.named
  have hnm := (name_of_methodNamed Bd.named Bd.method).1
  have X0 : Stand p l e ({ frames := 1, cells := 1, slots := 1, locals := 12 } : Room) s m #[(.ref a1)] below meth c s₁ [] 0 0 := Stand.of_body Bd
  have e0 : s₁.heap = h0 := by rw [← hh, Bd.state]; rfl
  have N0 := Fr.nil n0
  show WP p e below (GG (Q_rm_i Z a1 h0 n0) s ({ frames := 1, cells := 1, slots := 1, locals := 12 } : Room).cells ({ frames := 1, cells := 1, slots := 1, locals := 12 } : Room).slots) (s₁.setTop (entryFrame m #[(.ref a1)] 1))
  rw [ef_rm_i m a1]
  show WP p e below _ (s₁.setTop (mkF m 0 #[.val (.ref a1)] []))
  refine own_go (fun t_ k => XS.aloadN X0.here hx rfl (hb hby d1_0) rfl rfl k) ?_
  show WP p e below _ (s₁.setTop (mkF m 1 #[.val (.ref a1)] [(.ref a1)]))
  obtain ⟨T1, X1, e1, st1⟩ := initO X0 hx hZ hown (hw _ (List.mem_of_getElem? (i := 6) rfl)) (hw _ (List.mem_of_getElem? (i := 7) rfl)) (hw _ (List.mem_of_getElem? (i := 8) rfl)) e0 (g := (mkF m 1 #[.val (.ref a1)] [(.ref a1)])) rfl (by rw [hml]; rfl) rfl (hb hby d1_1) (by decide) (W := 0) (by show 2 * 0 + _ ≤ _; exact Nat.le_of_eq rfl) (by decide)
  refine own_go st1 ?_
  show WP p e below _ (T1.setTop (mkF m 4 #[.val (.ref a1)] []))
  refine own_go (fun t_ k => XS.aloadN X1.here hx rfl (hb hby d1_4) rfl rfl k) ?_
  show WP p e below _ (T1.setTop (mkF m 5 #[.val (.ref a1)] [(.ref a1)]))
  refine own_go (fun t_ k => XS.iconst X1.here hx rfl (hb hby d1_5) k) ?_
  show WP p e below _ (T1.setTop (mkF m 6 #[.val (.ref a1)] [(.int (1 : Int32)), (.ref a1)]))
  obtain ⟨T2, h2, k2, X2, e2, E2, A2, -, O2, st2⟩ := newRA X1 hx hZ (ty := .byte) hown (by decide) (hw _ (List.mem_of_getElem? (i := 9) rfl)) (hw _ (List.mem_of_getElem? (i := 10) rfl)) e1 (g := (mkF m 6 #[.val (.ref a1)] [(.int (1 : Int32)), (.ref a1)])) rfl (hb hby d1_6) rfl (by decide) (cap := 1) (by decide) (by decide) (by decide) (by decide) (ad := "[[B") (by decide)
  obtain ⟨b2, g2⟩ : ∃ z, z = Array.size h0 := ⟨_, rfl⟩
  rw [← g2] at A2 st2
  refine own_go st2 ?_
  have g_b2 : n0 ≤ b2 := Nat.le_trans (Nat.le_trans Z0 (Keep.refl h0 [a1]).1) (Nat.le_of_eq g2.symm)
  have sz_b2 : h0.size ≤ b2 := Nat.le_trans (Keep.refl h0 [a1]).1 (Nat.le_of_eq g2.symm)
  have ne_a1_b2 : a1 ≠ b2 := Nat.ne_of_lt (Nat.lt_of_lt_of_le E_a.lt (Nat.le_of_eq g2.symm))
  have K2 : Keep h0 h2 [a1] := (Keep.refl h0 [a1]).ext E2
  have V2 : Arv Z h2 b2 k2 (.array .byte) (1 : Int32) [.null] .null := (Arv.new A2 (by decide)).pad (pad_rep [] Value.null 1)
  show WP p e below _ (T2.setTop (mkF m 9 #[.val (.ref a1)] [(.ref b2), (.ref a1)]))
  obtain ⟨T3, h3, X3, e3, W3, st3⟩ := putF X2 hx hZ hown (host := "") (Or.inl (hw _ (List.mem_of_getElem? (i := 11) rfl))) Via.refl e2 (F_b.ext E2) (E_a.ext E2) (Or.inl (hw _ (List.mem_of_getElem? (i := 12) rfl))) (hw _ (List.mem_of_getElem? (i := 1) rfl)) (ty := (.array (.array .byte))) (by decide) rfl rfl (g := (mkF m 9 #[.val (.ref a1)] [(.ref b2), (.ref a1)])) rfl rfl (hb hby d1_9)
  refine own_go st3 ?_
  have Fw3 := (F_b.ext E2).same W3
  have N3 := Fr.snoc X3 N0 g_a
  have K3 : Keep h0 h3 [a1] := K2.wr W3 (Or.inl (List.mem_of_getElem? (i := 0) rfl))
  show WP p e below _ (T3.setTop (mkF m 12 #[.val (.ref a1)] []))
  exact own_ret0 X3 hx Bd.notSynchronized Bd.returns (hb hby d1_12) (by rw [e3]; exact ⟨rfl, N3, K3, b2, k2, g_b2, sz_b2, ⟨((E_a.ext E2).wr W3), Fw3, ((F_s.ext E2).other W3 (Or.inr (slot_ne (Or.inl (hw _ (List.mem_of_getElem? (i := 19) rfl))) (Or.inl (hw _ (List.mem_of_getElem? (i := 12) rfl))) (by decide) (t := .long) (t' := (.array (.array .byte))) (by decide) (by decide)))), (V2.other W3 (Ne.symm ne_a1_b2)), ne_a1_b2⟩, O2⟩) (by decide) (by decide)
def Q_rm_a0 (Z : State) (a1 : Addr) (p2 : Int32) (t : Addr) (k : ClassId) (h0 : Heap) (n0 : Nat) (v : Option Value) (h : Heap) (L : List Loc) : Prop := v = none ∧ Fr n0 L ∧ Keep h0 h [a1, t] ∧ ∃ b kb, n0 ≤ b ∧ h0.size ≤ b ∧ BB Z h a1 t k b kb (1 : Int64) [(p2.toInt8.toInt32)]
theorem d3_0 : decode prog_3_method_3_code 0 = .ok (.aload_n 0, 1) := by decide +kernel
theorem d3_1 : decode prog_3_method_3_code 1 = .ok (.getfield 15, 3) := by decide +kernel
theorem d3_4 : decode prog_3_method_3_code 4 = .ok (.bipush 16, 2) := by decide +kernel
theorem d3_6 : decode prog_3_method_3_code 6 = .ok (.lushr, 1) := by decide +kernel
theorem d3_7 : decode prog_3_method_3_code 7 = .ok (.l2i, 1) := by decide +kernel
theorem d3_8 : decode prog_3_method_3_code 8 = .ok (.istore_n 2, 1) := by decide +kernel
theorem d3_9 : decode prog_3_method_3_code 9 = .ok (.iload_n 2, 1) := by decide +kernel
theorem d3_10 : decode prog_3_method_3_code 10 = .ok (.aload_n 0, 1) := by decide +kernel
theorem d3_11 : decode prog_3_method_3_code 11 = .ok (.getfield 11, 3) := by decide +kernel
theorem d3_14 : decode prog_3_method_3_code 14 = .ok (.arraylength, 1) := by decide +kernel
theorem d3_15 : decode prog_3_method_3_code 15 = .ok (.if_icmp .ne 20, 3) := by decide +kernel
theorem d3_35 : decode prog_3_method_3_code 35 = .ok (.aload_n 0, 1) := by decide +kernel
theorem d3_36 : decode prog_3_method_3_code 36 = .ok (.getfield 11, 3) := by decide +kernel
theorem d3_39 : decode prog_3_method_3_code 39 = .ok (.iload_n 2, 1) := by decide +kernel
theorem d3_40 : decode prog_3_method_3_code 40 = .ok (.aaload, 1) := by decide +kernel
theorem d3_41 : decode prog_3_method_3_code 41 = .ok (.ifnonnull 13, 3) := by decide +kernel
theorem d3_44 : decode prog_3_method_3_code 44 = .ok (.aload_n 0, 1) := by decide +kernel
theorem d3_45 : decode prog_3_method_3_code 45 = .ok (.getfield 11, 3) := by decide +kernel
theorem d3_48 : decode prog_3_method_3_code 48 = .ok (.iload_n 2, 1) := by decide +kernel
theorem d3_49 : decode prog_3_method_3_code 49 = .ok (.ldc 26, 2) := by decide +kernel
theorem d3_51 : decode prog_3_method_3_code 51 = .ok (.newarray .byte, 2) := by decide +kernel
theorem d3_53 : decode prog_3_method_3_code 53 = .ok (.aastore, 1) := by decide +kernel
theorem d3_54 : decode prog_3_method_3_code 54 = .ok (.aload_n 0, 1) := by decide +kernel
theorem d3_55 : decode prog_3_method_3_code 55 = .ok (.getfield 11, 3) := by decide +kernel
theorem d3_58 : decode prog_3_method_3_code 58 = .ok (.iload_n 2, 1) := by decide +kernel
theorem d3_59 : decode prog_3_method_3_code 59 = .ok (.aaload, 1) := by decide +kernel
theorem d3_60 : decode prog_3_method_3_code 60 = .ok (.aload_n 0, 1) := by decide +kernel
theorem d3_61 : decode prog_3_method_3_code 61 = .ok (.getfield 15, 3) := by decide +kernel
theorem d3_64 : decode prog_3_method_3_code 64 = .ok (.ldc2_w 27, 3) := by decide +kernel
theorem d3_67 : decode prog_3_method_3_code 67 = .ok (.land, 1) := by decide +kernel
theorem d3_68 : decode prog_3_method_3_code 68 = .ok (.l2i, 1) := by decide +kernel
theorem d3_69 : decode prog_3_method_3_code 69 = .ok (.iload_n 1, 1) := by decide +kernel
theorem d3_70 : decode prog_3_method_3_code 70 = .ok (.bastore, 1) := by decide +kernel
theorem d3_71 : decode prog_3_method_3_code 71 = .ok (.aload_n 0, 1) := by decide +kernel
theorem d3_72 : decode prog_3_method_3_code 72 = .ok (.dup, 1) := by decide +kernel
theorem d3_73 : decode prog_3_method_3_code 73 = .ok (.getfield 15, 3) := by decide +kernel
theorem d3_76 : decode prog_3_method_3_code 76 = .ok (.lconst 1, 1) := by decide +kernel
theorem d3_77 : decode prog_3_method_3_code 77 = .ok (.ladd, 1) := by decide +kernel
theorem d3_78 : decode prog_3_method_3_code 78 = .ok (.putfield 15, 3) := by decide +kernel
theorem d3_81 : decode prog_3_method_3_code 81 = .ok (.return_, 1) := by decide +kernel
theorem ef_rm_a0 (m : MethodId) (x0 : Addr) (x1 : Int32) : entryFrame m #[(.ref x0), (.int x1)] 3 = mkF m 0 #[.val (.ref x0), .val (.int x1), .unset] [] := by first | (simp [entryFrame, mkF, argsToLocals, Value.category]; done) | rfl
set_option maxRecDepth 65536 in
set_option maxHeartbeats 40000000 in
theorem rm_a0 (l : Launch) (Z : State) (a0 : Array Value) (hw : ∀ d ∈ tables_1, d.before a0 Z = true) (ws : List Jvm.Cond) (a1 : Addr) (p2 : Int32) (t : Addr) (k : ClassId) (h0 : Heap) (n0 : Nat) (Z0 : n0 ≤ h0.size) (G : BB0 Z h0 a1 t k) (O : OvrA Z k .byte "[B") (g_a : n0 ≤ a1) (g_t : n0 ≤ t) :
    MetFree l (⟨"com/example/vestry/vestry/ByteBlocks", "append", "(B)V"⟩ : MethodName) (head1 (Jvm.Cond.code (⟨"com/example/vestry/vestry/ByteBlocks", "append", "(B)V"⟩ : MethodName) prog_3_method_3_code 3 none :: ws) ({ frames := 0, cells := 1, slots := 65536, locals := 0 } : Room)) (fun a U => a = #[(.ref a1), (.int p2)] ∧ Z.Warmed39 U.vm ∧ U.heap = h0) (fun _ _ _ _ _ => True) (fun _ U o U' => ∃ v L, o = .returned v ∧ (Q_rm_a0 Z a1 p2 t k h0 n0) v U'.heap L ∧ FrameEnd U o U' L ({ frames := 0, cells := 1, slots := 65536, locals := 0 } : Room).cells ({ frames := 0, cells := 1, slots := 65536, locals := 0 } : Room).slots) := by
  refine MetFree.of_bodySF (plainFor_of_name pn_0) hisR ?_
  intro p e s m args below meth c s₁ Bd hml0 hP hK
  obtain ⟨rfl, hZ, hh⟩ := hP
  have hx := Bd.exec
  have hby := Bd.bytes
  have hml : c.maxLocals = 3 := hml0
  have hown : s.vm.findClass "com/example/vestry/vestry/ByteBlocks" = some m.cls := findClass_of_methodNamed Bd.named
  have hnm := (name_of_methodNamed Bd.named Bd.method).1
  have X0 : Stand p l e ({ frames := 0, cells := 1, slots := 65536, locals := 0 } : Room) s m #[(.ref a1), (.int p2)] below meth c s₁ [] 0 0 := Stand.of_body Bd
  have e0 : s₁.heap = h0 := by rw [← hh, Bd.state]; rfl
  have N0 := Fr.nil n0
  show WP p e below (GG (Q_rm_a0 Z a1 p2 t k h0 n0) s ({ frames := 0, cells := 1, slots := 65536, locals := 0 } : Room).cells ({ frames := 0, cells := 1, slots := 65536, locals := 0 } : Room).slots) (s₁.setTop (entryFrame m #[(.ref a1), (.int p2)] 3))
  rw [ef_rm_a0 m a1 p2]
  obtain ⟨E_a, F_b, F_s, V_t, ne_t⟩ := G
  show WP p e below _ (s₁.setTop (mkF m 0 #[.val (.ref a1), .val (.int p2), .unset] []))
  refine own_go (fun t_ k => XS.aloadN X0.here hx rfl (hb hby d3_0) rfl rfl k) ?_
  show WP p e below _ (s₁.setTop (mkF m 1 #[.val (.ref a1), .val (.int p2), .unset] [(.ref a1)]))
  obtain ⟨T1, X1, e1, st1⟩ := getF X0 hx hZ hown (host := "") (Or.inl (hw _ (List.mem_of_getElem? (i := 18) rfl))) Via.refl e0 F_s (g := (mkF m 1 #[.val (.ref a1), .val (.int p2), .unset] [(.ref a1)])) rfl rfl (hb hby d3_1)
  refine own_go st1 ?_
  show WP p e below _ (T1.setTop (mkF m 4 #[.val (.ref a1), .val (.int p2), .unset] [(.long (0 : Int64))]))
  refine own_go (fun t_ k => XS.bipush X1.here hx rfl (hb hby d3_4) k) ?_
  show WP p e below _ (T1.setTop (mkF m 6 #[.val (.ref a1), .val (.int p2), .unset] [(.int (16 : Int32)), (.long (0 : Int64))]))
  refine own_go (fun t_ k => XS.lushr X1.here hx rfl (hb hby d3_6) rfl k) ?_
  show WP p e below _ (T1.setTop (mkF m 7 #[.val (.ref a1), .val (.int p2), .unset] [(.long (0 : Int64))]))
  refine own_go (fun t_ k => XS.l2i X1.here hx rfl (hb hby d3_7) rfl k) ?_
  show WP p e below _ (T1.setTop (mkF m 8 #[.val (.ref a1), .val (.int p2), .unset] [(.int (0 : Int32))]))
  refine own_go (fun t_ k => XS.istoreN X1.here hx rfl (hb hby d3_8) rfl (l' := #[.val (.ref a1), .val (.int p2), .val (.int (0 : Int32))]) rfl k) ?_
  show WP p e below _ (T1.setTop (mkF m 9 #[.val (.ref a1), .val (.int p2), .val (.int (0 : Int32))] []))
  refine own_go (fun t_ k => XS.iloadN X1.here hx rfl (hb hby d3_9) rfl k) ?_
  show WP p e below _ (T1.setTop (mkF m 10 #[.val (.ref a1), .val (.int p2), .val (.int (0 : Int32))] [(.int (0 : Int32))]))
  refine own_go (fun t_ k => XS.aloadN X1.here hx rfl (hb hby d3_10) rfl rfl k) ?_
  show WP p e below _ (T1.setTop (mkF m 11 #[.val (.ref a1), .val (.int p2), .val (.int (0 : Int32))] [(.ref a1), (.int (0 : Int32))]))
  obtain ⟨T2, X2, e2, st2⟩ := getF X1 hx hZ hown (host := "") (Or.inl (hw _ (List.mem_of_getElem? (i := 11) rfl))) Via.refl e1 F_b (g := (mkF m 11 #[.val (.ref a1), .val (.int p2), .val (.int (0 : Int32))] [(.ref a1), (.int (0 : Int32))])) rfl rfl (hb hby d3_11)
  refine own_go st2 ?_
  show WP p e below _ (T2.setTop (mkF m 14 #[.val (.ref a1), .val (.int p2), .val (.int (0 : Int32))] [(.ref t), (.int (0 : Int32))]))
  obtain ⟨cl3, Ar3, -, S3, M3, -, -⟩ := id (V_t)
  refine own_go (fun t_ k => X2.arraylength hx (by rw [e2]; exact Ar3.1) (State.isArrayOf_alike hZ.alike Ar3.2.1) (g := (mkF m 14 #[.val (.ref a1), .val (.int p2), .val (.int (0 : Int32))] [(.ref t), (.int (0 : Int32))])) rfl rfl (hb hby d3_14) _ (by rw [len_of S3 M3]; exact k)) ?_
  show WP p e below _ (T2.setTop (mkF m 15 #[.val (.ref a1), .val (.int p2), .val (.int (0 : Int32))] [(.int (1 : Int32)), (.int (0 : Int32))]))
  have hc15_4 : ¬ ((0 : Int32) = (1 : Int32)) := by decide
  refine own_go (fun t_ k => XS.icmpYes X2.here hx rfl (pc0 := 15) (pc' := 35) rfl (hb hby d3_15) rfl (feq hc15_4).2 (by decide) (by decide) k) ?_
  show WP p e below _ (T2.setTop (mkF m 35 #[.val (.ref a1), .val (.int p2), .val (.int (0 : Int32))] []))
  refine own_go (fun t_ k => XS.aloadN X2.here hx rfl (hb hby d3_35) rfl rfl k) ?_
  show WP p e below _ (T2.setTop (mkF m 36 #[.val (.ref a1), .val (.int p2), .val (.int (0 : Int32))] [(.ref a1)]))
  obtain ⟨T5, X5, e5, st5⟩ := getF X2 hx hZ hown (host := "") (Or.inl (hw _ (List.mem_of_getElem? (i := 11) rfl))) Via.refl e2 F_b (g := (mkF m 36 #[.val (.ref a1), .val (.int p2), .val (.int (0 : Int32))] [(.ref a1)])) rfl rfl (hb hby d3_36)
  refine own_go st5 ?_
  show WP p e below _ (T5.setTop (mkF m 39 #[.val (.ref a1), .val (.int p2), .val (.int (0 : Int32))] [(.ref t)]))
  refine own_go (fun t_ k => XS.iloadN X5.here hx rfl (hb hby d3_39) rfl k) ?_
  show WP p e below _ (T5.setTop (mkF m 40 #[.val (.ref a1), .val (.int p2), .val (.int (0 : Int32))] [(.int (0 : Int32)), (.ref t)]))
  obtain ⟨cl6, Ar6, -, S6, M6, H6, -⟩ := id (V_t)
  have hin6 : ¬ ((0 : Int32) < 0 ∨ cl6.slots.size ≤ ((0 : Int32)).toNatClampNeg) := inb_of S6 (⟨by decide, by decide⟩)
  refine own_go (fun t_ k => X5.aaload hx (j := (0 : Int32)) (v := .null) (by rw [e5]; exact Ar6.1) (State.isArrayOf_alike hZ.alike Ar6.2.1) rfl Ar6.2.2 hin6 (H6.at hin6 rfl) (g := (mkF m 40 #[.val (.ref a1), .val (.int p2), .val (.int (0 : Int32))] [(.int (0 : Int32)), (.ref t)])) rfl rfl (hb hby d3_40) _ k) ?_
  show WP p e below _ (T5.setTop (mkF m 41 #[.val (.ref a1), .val (.int p2), .val (.int (0 : Int32))] [.null]))
  refine own_go (fun t_ k => XS.ifnonnullNo X5.here hx rfl (hb hby d3_41) rfl k) ?_
  show WP p e below _ (T5.setTop (mkF m 44 #[.val (.ref a1), .val (.int p2), .val (.int (0 : Int32))] []))
  refine own_go (fun t_ k => XS.aloadN X5.here hx rfl (hb hby d3_44) rfl rfl k) ?_
  show WP p e below _ (T5.setTop (mkF m 45 #[.val (.ref a1), .val (.int p2), .val (.int (0 : Int32))] [(.ref a1)]))
  obtain ⟨T7, X7, e7, st7⟩ := getF X5 hx hZ hown (host := "") (Or.inl (hw _ (List.mem_of_getElem? (i := 11) rfl))) Via.refl e5 F_b (g := (mkF m 45 #[.val (.ref a1), .val (.int p2), .val (.int (0 : Int32))] [(.ref a1)])) rfl rfl (hb hby d3_45)
  refine own_go st7 ?_
  show WP p e below _ (T7.setTop (mkF m 48 #[.val (.ref a1), .val (.int p2), .val (.int (0 : Int32))] [(.ref t)]))
  refine own_go (fun t_ k => XS.iloadN X7.here hx rfl (hb hby d3_48) rfl k) ?_
  show WP p e below _ (T7.setTop (mkF m 49 #[.val (.ref a1), .val (.int p2), .val (.int (0 : Int32))] [(.int (0 : Int32)), (.ref t)]))
  refine own_go (fun t_ k => X7.ldcInt hx hown (mvT hZ (hw _ (List.mem_of_getElem? (i := 20) rfl))) (g := (mkF m 49 #[.val (.ref a1), .val (.int p2), .val (.int (0 : Int32))] [(.int (0 : Int32)), (.ref t)])) rfl (hb hby d3_49) _ k) ?_
  show WP p e below _ (T7.setTop (mkF m 51 #[.val (.ref a1), .val (.int p2), .val (.int (0 : Int32))] [(.int (65536 : Int32)), (.int (0 : Int32)), (.ref t)]))
  obtain ⟨T8, h8, k8, X8, e8, E8, A8, Ex8, st8⟩ := newPE X7 hx hZ (hw _ (List.mem_of_getElem? (i := 21) rfl)) e7 (g := (mkF m 51 #[.val (.ref a1), .val (.int p2), .val (.int (0 : Int32))] [(.int (65536 : Int32)), (.int (0 : Int32)), (.ref t)])) rfl (hb hby d3_51) rfl (by decide) (cap := 65536) (by decide) (by decide) (by decide) (by decide) (ad := "[B") (by decide)
  obtain ⟨b8, g8⟩ : ∃ z, z = Array.size h0 := ⟨_, rfl⟩
  rw [← g8] at A8 Ex8 st8
  refine own_go st8 ?_
  have g_b8 : n0 ≤ b8 := Nat.le_trans (Nat.le_trans Z0 (Keep.refl h0 [a1, t]).1) (Nat.le_of_eq g8.symm)
  have sz_b8 : h0.size ≤ b8 := Nat.le_trans (Keep.refl h0 [a1, t]).1 (Nat.le_of_eq g8.symm)
  have ne_a1_b8 : a1 ≠ b8 := Nat.ne_of_lt (Nat.lt_of_lt_of_le E_a.lt (Nat.le_of_eq g8.symm))
  have ne_t_b8 : t ≠ b8 := Nat.ne_of_lt (Nat.lt_of_lt_of_le V_t.lt (Nat.le_of_eq g8.symm))
  have K8 : Keep h0 h8 [a1, t] := (Keep.refl h0 [a1, t]).ext E8
  have V8 : Arv Z h8 b8 k8 .byte (65536 : Int32) [] (.int (0 : Int32)) := Arv.new A8 (by decide)
  show WP p e below _ (T8.setTop (mkF m 53 #[.val (.ref a1), .val (.int p2), .val (.int (0 : Int32))] [(.ref b8), (.int (0 : Int32)), (.ref t)]))
  obtain ⟨cl9, Ar9, q9, S9, M9, H9, G9⟩ := id ((V_t.ext E8))
  have hin9 : ¬ ((0 : Int32) < 0 ∨ cl9.slots.size ≤ ((0 : Int32)).toNatClampNeg) := inb_of S9 (⟨by decide, by decide⟩)
  obtain ⟨T10, h10, X10, e10, W10, st10⟩ := stR X8 hx hZ e8 Ar9 (j := (0 : Int32)) hin9 rfl (Sto.ofVA Ar9 q9 O (Ins.self Ex8)) (g := (mkF m 53 #[.val (.ref a1), .val (.int p2), .val (.int (0 : Int32))] [(.ref b8), (.int (0 : Int32)), (.ref t)])) rfl rfl (hb hby d3_53)
  refine own_go st10 ?_
  have V10 : Arv Z h10 t k (.array .byte) (1 : Int32) [(.ref b8)] .null := Arv.set Ar9 q9 S9 M9 H9 G9 rfl W10 0 rfl (Nat.le_of_ble_eq_true rfl)
  have N10 := Fr.snoc X10 N0 g_t
  have K10 : Keep h0 h10 [a1, t] := K8.wr W10 (Or.inl (List.mem_of_getElem? (i := 1) rfl))
  show WP p e below _ (T10.setTop (mkF m 54 #[.val (.ref a1), .val (.int p2), .val (.int (0 : Int32))] []))
  refine own_go (fun t_ k => XS.aloadN X10.here hx rfl (hb hby d3_54) rfl rfl k) ?_
  show WP p e below _ (T10.setTop (mkF m 55 #[.val (.ref a1), .val (.int p2), .val (.int (0 : Int32))] [(.ref a1)]))
  obtain ⟨T11, X11, e11, st11⟩ := getF X10 hx hZ hown (host := "") (Or.inl (hw _ (List.mem_of_getElem? (i := 11) rfl))) Via.refl e10 ((F_b.ext E8).other W10 (Or.inl ne_t)) (g := (mkF m 55 #[.val (.ref a1), .val (.int p2), .val (.int (0 : Int32))] [(.ref a1)])) rfl rfl (hb hby d3_55)
  refine own_go st11 ?_
  show WP p e below _ (T11.setTop (mkF m 58 #[.val (.ref a1), .val (.int p2), .val (.int (0 : Int32))] [(.ref t)]))
  refine own_go (fun t_ k => XS.iloadN X11.here hx rfl (hb hby d3_58) rfl k) ?_
  show WP p e below _ (T11.setTop (mkF m 59 #[.val (.ref a1), .val (.int p2), .val (.int (0 : Int32))] [(.int (0 : Int32)), (.ref t)]))
  obtain ⟨cl12, Ar12, -, S12, M12, H12, -⟩ := id (V10)
  have hin12 : ¬ ((0 : Int32) < 0 ∨ cl12.slots.size ≤ ((0 : Int32)).toNatClampNeg) := inb_of S12 (⟨by decide, by decide⟩)
  refine own_go (fun t_ k => X11.aaload hx (j := (0 : Int32)) (v := (.ref b8)) (by rw [e11]; exact Ar12.1) (State.isArrayOf_alike hZ.alike Ar12.2.1) rfl Ar12.2.2 hin12 (H12.at hin12 rfl) (g := (mkF m 59 #[.val (.ref a1), .val (.int p2), .val (.int (0 : Int32))] [(.int (0 : Int32)), (.ref t)])) rfl rfl (hb hby d3_59) _ k) ?_
  show WP p e below _ (T11.setTop (mkF m 60 #[.val (.ref a1), .val (.int p2), .val (.int (0 : Int32))] [(.ref b8)]))
  refine own_go (fun t_ k => XS.aloadN X11.here hx rfl (hb hby d3_60) rfl rfl k) ?_
  show WP p e below _ (T11.setTop (mkF m 61 #[.val (.ref a1), .val (.int p2), .val (.int (0 : Int32))] [(.ref a1), (.ref b8)]))
  obtain ⟨T13, X13, e13, st13⟩ := getF X11 hx hZ hown (host := "") (Or.inl (hw _ (List.mem_of_getElem? (i := 18) rfl))) Via.refl e11 ((F_s.ext E8).other W10 (Or.inl ne_t)) (g := (mkF m 61 #[.val (.ref a1), .val (.int p2), .val (.int (0 : Int32))] [(.ref a1), (.ref b8)])) rfl rfl (hb hby d3_61)
  refine own_go st13 ?_
  show WP p e below _ (T13.setTop (mkF m 64 #[.val (.ref a1), .val (.int p2), .val (.int (0 : Int32))] [(.long (0 : Int64)), (.ref b8)]))
  refine own_go (fun t_ k => X13.ldc2Long hx hown (mvT hZ (hw _ (List.mem_of_getElem? (i := 23) rfl))) (g := (mkF m 64 #[.val (.ref a1), .val (.int p2), .val (.int (0 : Int32))] [(.long (0 : Int64)), (.ref b8)])) rfl (hb hby d3_64) _ k) ?_
  show WP p e below _ (T13.setTop (mkF m 67 #[.val (.ref a1), .val (.int p2), .val (.int (0 : Int32))] [(.long (65535 : Int64)), (.long (0 : Int64)), (.ref b8)]))
  refine own_go (fun t_ k => XS.land X13.here hx rfl (hb hby d3_67) rfl k) ?_
  show WP p e below _ (T13.setTop (mkF m 68 #[.val (.ref a1), .val (.int p2), .val (.int (0 : Int32))] [(.long (0 : Int64)), (.ref b8)]))
  refine own_go (fun t_ k => XS.l2i X13.here hx rfl (hb hby d3_68) rfl k) ?_
  show WP p e below _ (T13.setTop (mkF m 69 #[.val (.ref a1), .val (.int p2), .val (.int (0 : Int32))] [(.int (0 : Int32)), (.ref b8)]))
  refine own_go (fun t_ k => XS.iloadN X13.here hx rfl (hb hby d3_69) rfl k) ?_
  have Vp14 := Arv.pad (V8.other W10 (Ne.symm ne_t_b8)) (pad_rep [] (Value.int (0 : Int32)) 1)
  show WP p e below _ (T13.setTop (mkF m 70 #[.val (.ref a1), .val (.int p2), .val (.int (0 : Int32))] [(.int p2), (.int (0 : Int32)), (.ref b8)]))
  obtain ⟨cl15, Ar15, q15, S15, M15, H15, G15⟩ := id (Vp14)
  have hin15 : ¬ ((0 : Int32) < 0 ∨ cl15.slots.size ≤ ((0 : Int32)).toNatClampNeg) := inb_of S15 (⟨by decide, by decide⟩)
  obtain ⟨T16, h16, X16, e16, W16, st16⟩ := stB X13 hx hZ e13 Ar15 (j := (0 : Int32)) hin15 (g := (mkF m 70 #[.val (.ref a1), .val (.int p2), .val (.int (0 : Int32))] [(.int p2), (.int (0 : Int32)), (.ref b8)])) rfl rfl (hb hby d3_70)
  refine own_go st16 ?_
  have V16 := Arv.set Ar15 q15 S15 M15 H15 G15 (fits_nar_byte _) W16 0 rfl (by decide)
  have N16 := Fr.snoc X16 N10 g_b8
  have K16 : Keep h0 h16 [a1, t] := K10.wr W16 (Or.inr sz_b8)
  show WP p e below _ (T16.setTop (mkF m 71 #[.val (.ref a1), .val (.int p2), .val (.int (0 : Int32))] []))
  refine own_go (fun t_ k => XS.aloadN X16.here hx rfl (hb hby d3_71) rfl rfl k) ?_
  show WP p e below _ (T16.setTop (mkF m 72 #[.val (.ref a1), .val (.int p2), .val (.int (0 : Int32))] [(.ref a1)]))
  refine own_go (fun t_ k => XS.dup X16.here hx rfl (hb hby d3_72) rfl rfl k) ?_
  show WP p e below _ (T16.setTop (mkF m 73 #[.val (.ref a1), .val (.int p2), .val (.int (0 : Int32))] [(.ref a1), (.ref a1)]))
  obtain ⟨T17, X17, e17, st17⟩ := getF X16 hx hZ hown (host := "") (Or.inl (hw _ (List.mem_of_getElem? (i := 18) rfl))) Via.refl e16 (((F_s.ext E8).other W10 (Or.inl ne_t)).other W16 (Or.inl ne_a1_b8)) (g := (mkF m 73 #[.val (.ref a1), .val (.int p2), .val (.int (0 : Int32))] [(.ref a1), (.ref a1)])) rfl rfl (hb hby d3_73)
  refine own_go st17 ?_
  show WP p e below _ (T17.setTop (mkF m 76 #[.val (.ref a1), .val (.int p2), .val (.int (0 : Int32))] [(.long (0 : Int64)), (.ref a1)]))
  refine own_go (fun t_ k => XS.lconst X17.here hx rfl (hb hby d3_76) k) ?_
  show WP p e below _ (T17.setTop (mkF m 77 #[.val (.ref a1), .val (.int p2), .val (.int (0 : Int32))] [(.long (1 : Int64)), (.long (0 : Int64)), (.ref a1)]))
  refine own_go (fun t_ k => XS.ladd X17.here hx rfl (hb hby d3_77) rfl k) ?_
  show WP p e below _ (T17.setTop (mkF m 78 #[.val (.ref a1), .val (.int p2), .val (.int (0 : Int32))] [(.long (1 : Int64)), (.ref a1)]))
  obtain ⟨T18, h18, X18, e18, W18, st18⟩ := putF X17 hx hZ hown (host := "") (Or.inl (hw _ (List.mem_of_getElem? (i := 18) rfl))) Via.refl e17 (((F_s.ext E8).other W10 (Or.inl ne_t)).other W16 (Or.inl ne_a1_b8)) (((E_a.ext E8).wr W10).wr W16) (Or.inl (hw _ (List.mem_of_getElem? (i := 19) rfl))) (hw _ (List.mem_of_getElem? (i := 1) rfl)) (ty := .long) (by decide) rfl rfl (g := (mkF m 78 #[.val (.ref a1), .val (.int p2), .val (.int (0 : Int32))] [(.long (1 : Int64)), (.ref a1)])) rfl rfl (hb hby d3_78)
  refine own_go st18 ?_
  have Fw18 := (((F_s.ext E8).other W10 (Or.inl ne_t)).other W16 (Or.inl ne_a1_b8)).same W18
  have N18 := Fr.snoc X18 N16 g_a
  have K18 : Keep h0 h18 [a1, t] := K16.wr W18 (Or.inl (List.mem_of_getElem? (i := 0) rfl))
  show WP p e below _ (T18.setTop (mkF m 81 #[.val (.ref a1), .val (.int p2), .val (.int (0 : Int32))] []))
  exact own_ret0 X18 hx Bd.notSynchronized Bd.returns (hb hby d3_81) (by rw [e18]; exact ⟨rfl, N18, K18, b8, k8, g_b8, sz_b8, ((((E_a.ext E8).wr W10).wr W16).wr W18), ((((F_b.ext E8).other W10 (Or.inl ne_t)).other W16 (Or.inl ne_a1_b8)).other W18 (Or.inr (slot_ne (Or.inl (hw _ (List.mem_of_getElem? (i := 12) rfl))) (Or.inl (hw _ (List.mem_of_getElem? (i := 19) rfl))) (by decide) (t := (.array (.array .byte))) (t' := .long) (by decide) (by decide)))), Fw18, ((V10.other W16 ne_t_b8).other W18 (Ne.symm ne_t)), (V16.other W18 (Ne.symm ne_a1_b8)), ne_t, ne_a1_b8, ne_t_b8⟩) (by decide) (by decide)
def Q_rm_a1 (Z : State) (a1 : Addr) (p2 : Int32) (t : Addr) (k : ClassId) (b : Addr) (kb : ClassId) (xs : List Int32) (h0 : Heap) (n0 : Nat) (v : Option Value) (h : Heap) (L : List Loc) : Prop := v = none ∧ Fr n0 L ∧ Keep h0 h [a1, b] ∧ BB Z h a1 t k b kb (2 : Int64) (xs ++ [(p2.toInt8.toInt32)])
theorem ef_rm_a1 (m : MethodId) (x0 : Addr) (x1 : Int32) : entryFrame m #[(.ref x0), (.int x1)] 3 = mkF m 0 #[.val (.ref x0), .val (.int x1), .unset] [] := by first | (simp [entryFrame, mkF, argsToLocals, Value.category]; done) | rfl
set_option maxRecDepth 65536 in
set_option maxHeartbeats 40000000 in
theorem rm_a1 (l : Launch) (Z : State) (a0 : Array Value) (hw : ∀ d ∈ tables_1, d.before a0 Z = true) (ws : List Jvm.Cond) (a1 : Addr) (p2 : Int32) (t : Addr) (k : ClassId) (b : Addr) (kb : ClassId) (xs : List Int32) (h0 : Heap) (n0 : Nat) (G : BB Z h0 a1 t k b kb (1 : Int64) xs) (hl : xs.length = 1) (g_a : n0 ≤ a1) (g_b : n0 ≤ b) :
    MetFree l (⟨"com/example/vestry/vestry/ByteBlocks", "append", "(B)V"⟩ : MethodName) (head1 (Jvm.Cond.code (⟨"com/example/vestry/vestry/ByteBlocks", "append", "(B)V"⟩ : MethodName) prog_3_method_3_code 3 none :: ws) ({ frames := 0, cells := 0, slots := 0, locals := 0 } : Room)) (fun a U => a = #[(.ref a1), (.int p2)] ∧ Z.Warmed39 U.vm ∧ U.heap = h0) (fun _ _ _ _ _ => True) (fun _ U o U' => ∃ v L, o = .returned v ∧ (Q_rm_a1 Z a1 p2 t k b kb xs h0 n0) v U'.heap L ∧ FrameEnd U o U' L ({ frames := 0, cells := 0, slots := 0, locals := 0 } : Room).cells ({ frames := 0, cells := 0, slots := 0, locals := 0 } : Room).slots) := by
  refine MetFree.of_bodySF (plainFor_of_name pn_0) hisR ?_
  intro p e s m args below meth c s₁ Bd hml0 hP hK
  obtain ⟨rfl, hZ, hh⟩ := hP
  have hx := Bd.exec
  have hby := Bd.bytes
  have hml : c.maxLocals = 3 := hml0
  have hown : s.vm.findClass "com/example/vestry/vestry/ByteBlocks" = some m.cls := findClass_of_methodNamed Bd.named
  have hnm := (name_of_methodNamed Bd.named Bd.method).1
  have X0 : Stand p l e ({ frames := 0, cells := 0, slots := 0, locals := 0 } : Room) s m #[(.ref a1), (.int p2)] below meth c s₁ [] 0 0 := Stand.of_body Bd
  have e0 : s₁.heap = h0 := by rw [← hh, Bd.state]; rfl
  have N0 := Fr.nil n0
  show WP p e below (GG (Q_rm_a1 Z a1 p2 t k b kb xs h0 n0) s ({ frames := 0, cells := 0, slots := 0, locals := 0 } : Room).cells ({ frames := 0, cells := 0, slots := 0, locals := 0 } : Room).slots) (s₁.setTop (entryFrame m #[(.ref a1), (.int p2)] 3))
  rw [ef_rm_a1 m a1 p2]
  obtain ⟨E_a, F_b, F_s, V_t, V_b, ne_t, ne_b, ne_tb⟩ := G
  have V_p := V_b.pad (pad_rep _ (Value.int (0 : Int32)) 1)
  show WP p e below _ (s₁.setTop (mkF m 0 #[.val (.ref a1), .val (.int p2), .unset] []))
  refine own_go (fun t_ k => XS.aloadN X0.here hx rfl (hb hby d3_0) rfl rfl k) ?_
  show WP p e below _ (s₁.setTop (mkF m 1 #[.val (.ref a1), .val (.int p2), .unset] [(.ref a1)]))
  obtain ⟨T1, X1, e1, st1⟩ := getF X0 hx hZ hown (host := "") (Or.inl (hw _ (List.mem_of_getElem? (i := 18) rfl))) Via.refl e0 F_s (g := (mkF m 1 #[.val (.ref a1), .val (.int p2), .unset] [(.ref a1)])) rfl rfl (hb hby d3_1)
  refine own_go st1 ?_
  show WP p e below _ (T1.setTop (mkF m 4 #[.val (.ref a1), .val (.int p2), .unset] [(.long (1 : Int64))]))
  refine own_go (fun t_ k => XS.bipush X1.here hx rfl (hb hby d3_4) k) ?_
  show WP p e below _ (T1.setTop (mkF m 6 #[.val (.ref a1), .val (.int p2), .unset] [(.int (16 : Int32)), (.long (1 : Int64))]))
  refine own_go (fun t_ k => XS.lushr X1.here hx rfl (hb hby d3_6) rfl k) ?_
  show WP p e below _ (T1.setTop (mkF m 7 #[.val (.ref a1), .val (.int p2), .unset] [(.long (0 : Int64))]))
  refine own_go (fun t_ k => XS.l2i X1.here hx rfl (hb hby d3_7) rfl k) ?_
  show WP p e below _ (T1.setTop (mkF m 8 #[.val (.ref a1), .val (.int p2), .unset] [(.int (0 : Int32))]))
  refine own_go (fun t_ k => XS.istoreN X1.here hx rfl (hb hby d3_8) rfl (l' := #[.val (.ref a1), .val (.int p2), .val (.int (0 : Int32))]) rfl k) ?_
  show WP p e below _ (T1.setTop (mkF m 9 #[.val (.ref a1), .val (.int p2), .val (.int (0 : Int32))] []))
  refine own_go (fun t_ k => XS.iloadN X1.here hx rfl (hb hby d3_9) rfl k) ?_
  show WP p e below _ (T1.setTop (mkF m 10 #[.val (.ref a1), .val (.int p2), .val (.int (0 : Int32))] [(.int (0 : Int32))]))
  refine own_go (fun t_ k => XS.aloadN X1.here hx rfl (hb hby d3_10) rfl rfl k) ?_
  show WP p e below _ (T1.setTop (mkF m 11 #[.val (.ref a1), .val (.int p2), .val (.int (0 : Int32))] [(.ref a1), (.int (0 : Int32))]))
  obtain ⟨T2, X2, e2, st2⟩ := getF X1 hx hZ hown (host := "") (Or.inl (hw _ (List.mem_of_getElem? (i := 11) rfl))) Via.refl e1 F_b (g := (mkF m 11 #[.val (.ref a1), .val (.int p2), .val (.int (0 : Int32))] [(.ref a1), (.int (0 : Int32))])) rfl rfl (hb hby d3_11)
  refine own_go st2 ?_
  show WP p e below _ (T2.setTop (mkF m 14 #[.val (.ref a1), .val (.int p2), .val (.int (0 : Int32))] [(.ref t), (.int (0 : Int32))]))
  obtain ⟨cl3, Ar3, -, S3, M3, -, -⟩ := id (V_t)
  refine own_go (fun t_ k => X2.arraylength hx (by rw [e2]; exact Ar3.1) (State.isArrayOf_alike hZ.alike Ar3.2.1) (g := (mkF m 14 #[.val (.ref a1), .val (.int p2), .val (.int (0 : Int32))] [(.ref t), (.int (0 : Int32))])) rfl rfl (hb hby d3_14) _ (by rw [len_of S3 M3]; exact k)) ?_
  show WP p e below _ (T2.setTop (mkF m 15 #[.val (.ref a1), .val (.int p2), .val (.int (0 : Int32))] [(.int (1 : Int32)), (.int (0 : Int32))]))
  have hc15_4 : ¬ ((0 : Int32) = (1 : Int32)) := by decide
  refine own_go (fun t_ k => XS.icmpYes X2.here hx rfl (pc0 := 15) (pc' := 35) rfl (hb hby d3_15) rfl (feq hc15_4).2 (by decide) (by decide) k) ?_
  show WP p e below _ (T2.setTop (mkF m 35 #[.val (.ref a1), .val (.int p2), .val (.int (0 : Int32))] []))
  refine own_go (fun t_ k => XS.aloadN X2.here hx rfl (hb hby d3_35) rfl rfl k) ?_
  show WP p e below _ (T2.setTop (mkF m 36 #[.val (.ref a1), .val (.int p2), .val (.int (0 : Int32))] [(.ref a1)]))
  obtain ⟨T5, X5, e5, st5⟩ := getF X2 hx hZ hown (host := "") (Or.inl (hw _ (List.mem_of_getElem? (i := 11) rfl))) Via.refl e2 F_b (g := (mkF m 36 #[.val (.ref a1), .val (.int p2), .val (.int (0 : Int32))] [(.ref a1)])) rfl rfl (hb hby d3_36)
  refine own_go st5 ?_
  show WP p e below _ (T5.setTop (mkF m 39 #[.val (.ref a1), .val (.int p2), .val (.int (0 : Int32))] [(.ref t)]))
  refine own_go (fun t_ k => XS.iloadN X5.here hx rfl (hb hby d3_39) rfl k) ?_
  show WP p e below _ (T5.setTop (mkF m 40 #[.val (.ref a1), .val (.int p2), .val (.int (0 : Int32))] [(.int (0 : Int32)), (.ref t)]))
  obtain ⟨cl6, Ar6, -, S6, M6, H6, -⟩ := id (V_t)
  have hin6 : ¬ ((0 : Int32) < 0 ∨ cl6.slots.size ≤ ((0 : Int32)).toNatClampNeg) := inb_of S6 (⟨by decide, by decide⟩)
  refine own_go (fun t_ k => X5.aaload hx (j := (0 : Int32)) (v := (.ref b)) (by rw [e5]; exact Ar6.1) (State.isArrayOf_alike hZ.alike Ar6.2.1) rfl Ar6.2.2 hin6 (H6.at hin6 rfl) (g := (mkF m 40 #[.val (.ref a1), .val (.int p2), .val (.int (0 : Int32))] [(.int (0 : Int32)), (.ref t)])) rfl rfl (hb hby d3_40) _ k) ?_
  show WP p e below _ (T5.setTop (mkF m 41 #[.val (.ref a1), .val (.int p2), .val (.int (0 : Int32))] [(.ref b)]))
  refine own_go (fun t_ k => XS.ifnonnullYes X5.here hx rfl (pc0 := 41) (pc' := 54) rfl (hb hby d3_41) rfl (by decide) (by decide) k) ?_
  show WP p e below _ (T5.setTop (mkF m 54 #[.val (.ref a1), .val (.int p2), .val (.int (0 : Int32))] []))
  refine own_go (fun t_ k => XS.aloadN X5.here hx rfl (hb hby d3_54) rfl rfl k) ?_
  show WP p e below _ (T5.setTop (mkF m 55 #[.val (.ref a1), .val (.int p2), .val (.int (0 : Int32))] [(.ref a1)]))
  obtain ⟨T7, X7, e7, st7⟩ := getF X5 hx hZ hown (host := "") (Or.inl (hw _ (List.mem_of_getElem? (i := 11) rfl))) Via.refl e5 F_b (g := (mkF m 55 #[.val (.ref a1), .val (.int p2), .val (.int (0 : Int32))] [(.ref a1)])) rfl rfl (hb hby d3_55)
  refine own_go st7 ?_
  show WP p e below _ (T7.setTop (mkF m 58 #[.val (.ref a1), .val (.int p2), .val (.int (0 : Int32))] [(.ref t)]))
  refine own_go (fun t_ k => XS.iloadN X7.here hx rfl (hb hby d3_58) rfl k) ?_
  show WP p e below _ (T7.setTop (mkF m 59 #[.val (.ref a1), .val (.int p2), .val (.int (0 : Int32))] [(.int (0 : Int32)), (.ref t)]))
  obtain ⟨cl8, Ar8, -, S8, M8, H8, -⟩ := id (V_t)
  have hin8 : ¬ ((0 : Int32) < 0 ∨ cl8.slots.size ≤ ((0 : Int32)).toNatClampNeg) := inb_of S8 (⟨by decide, by decide⟩)
  refine own_go (fun t_ k => X7.aaload hx (j := (0 : Int32)) (v := (.ref b)) (by rw [e7]; exact Ar8.1) (State.isArrayOf_alike hZ.alike Ar8.2.1) rfl Ar8.2.2 hin8 (H8.at hin8 rfl) (g := (mkF m 59 #[.val (.ref a1), .val (.int p2), .val (.int (0 : Int32))] [(.int (0 : Int32)), (.ref t)])) rfl rfl (hb hby d3_59) _ k) ?_
  show WP p e below _ (T7.setTop (mkF m 60 #[.val (.ref a1), .val (.int p2), .val (.int (0 : Int32))] [(.ref b)]))
  refine own_go (fun t_ k => XS.aloadN X7.here hx rfl (hb hby d3_60) rfl rfl k) ?_
  show WP p e below _ (T7.setTop (mkF m 61 #[.val (.ref a1), .val (.int p2), .val (.int (0 : Int32))] [(.ref a1), (.ref b)]))
  obtain ⟨T9, X9, e9, st9⟩ := getF X7 hx hZ hown (host := "") (Or.inl (hw _ (List.mem_of_getElem? (i := 18) rfl))) Via.refl e7 F_s (g := (mkF m 61 #[.val (.ref a1), .val (.int p2), .val (.int (0 : Int32))] [(.ref a1), (.ref b)])) rfl rfl (hb hby d3_61)
  refine own_go st9 ?_
  show WP p e below _ (T9.setTop (mkF m 64 #[.val (.ref a1), .val (.int p2), .val (.int (0 : Int32))] [(.long (1 : Int64)), (.ref b)]))
  refine own_go (fun t_ k => X9.ldc2Long hx hown (mvT hZ (hw _ (List.mem_of_getElem? (i := 23) rfl))) (g := (mkF m 64 #[.val (.ref a1), .val (.int p2), .val (.int (0 : Int32))] [(.long (1 : Int64)), (.ref b)])) rfl (hb hby d3_64) _ k) ?_
  show WP p e below _ (T9.setTop (mkF m 67 #[.val (.ref a1), .val (.int p2), .val (.int (0 : Int32))] [(.long (65535 : Int64)), (.long (1 : Int64)), (.ref b)]))
  refine own_go (fun t_ k => XS.land X9.here hx rfl (hb hby d3_67) rfl k) ?_
  show WP p e below _ (T9.setTop (mkF m 68 #[.val (.ref a1), .val (.int p2), .val (.int (0 : Int32))] [(.long (1 : Int64)), (.ref b)]))
  refine own_go (fun t_ k => XS.l2i X9.here hx rfl (hb hby d3_68) rfl k) ?_
  show WP p e below _ (T9.setTop (mkF m 69 #[.val (.ref a1), .val (.int p2), .val (.int (0 : Int32))] [(.int (1 : Int32)), (.ref b)]))
  refine own_go (fun t_ k => XS.iloadN X9.here hx rfl (hb hby d3_69) rfl k) ?_
  show WP p e below _ (T9.setTop (mkF m 70 #[.val (.ref a1), .val (.int p2), .val (.int (0 : Int32))] [(.int p2), (.int (1 : Int32)), (.ref b)]))
  obtain ⟨cl10, Ar10, q10, S10, M10, H10, G10⟩ := id (V_p)
  have hin10 : ¬ ((1 : Int32) < 0 ∨ cl10.slots.size ≤ ((1 : Int32)).toNatClampNeg) := inb_of S10 (⟨by decide, by decide⟩)
  obtain ⟨T11, h11, X11, e11, W11, st11⟩ := stB X9 hx hZ e9 Ar10 (j := (1 : Int32)) hin10 (g := (mkF m 70 #[.val (.ref a1), .val (.int p2), .val (.int (0 : Int32))] [(.int p2), (.int (1 : Int32)), (.ref b)])) rfl rfl (hb hby d3_70)
  refine own_go st11 ?_
  have V11 := Arv.set Ar10 q10 S10 M10 H10 G10 (fits_nar_byte _) W11 1 rfl (by simp [hl])
  have N11 := Fr.snoc X11 N0 g_b
  have K11 : Keep h0 h11 [a1, b] := (Keep.refl h0 [a1, b]).wr W11 (Or.inl (List.mem_of_getElem? (i := 1) rfl))
  show WP p e below _ (T11.setTop (mkF m 71 #[.val (.ref a1), .val (.int p2), .val (.int (0 : Int32))] []))
  refine own_go (fun t_ k => XS.aloadN X11.here hx rfl (hb hby d3_71) rfl rfl k) ?_
  show WP p e below _ (T11.setTop (mkF m 72 #[.val (.ref a1), .val (.int p2), .val (.int (0 : Int32))] [(.ref a1)]))
  refine own_go (fun t_ k => XS.dup X11.here hx rfl (hb hby d3_72) rfl rfl k) ?_
  show WP p e below _ (T11.setTop (mkF m 73 #[.val (.ref a1), .val (.int p2), .val (.int (0 : Int32))] [(.ref a1), (.ref a1)]))
  obtain ⟨T12, X12, e12, st12⟩ := getF X11 hx hZ hown (host := "") (Or.inl (hw _ (List.mem_of_getElem? (i := 18) rfl))) Via.refl e11 (F_s.other W11 (Or.inl ne_b)) (g := (mkF m 73 #[.val (.ref a1), .val (.int p2), .val (.int (0 : Int32))] [(.ref a1), (.ref a1)])) rfl rfl (hb hby d3_73)
  refine own_go st12 ?_
  show WP p e below _ (T12.setTop (mkF m 76 #[.val (.ref a1), .val (.int p2), .val (.int (0 : Int32))] [(.long (1 : Int64)), (.ref a1)]))
  refine own_go (fun t_ k => XS.lconst X12.here hx rfl (hb hby d3_76) k) ?_
  show WP p e below _ (T12.setTop (mkF m 77 #[.val (.ref a1), .val (.int p2), .val (.int (0 : Int32))] [(.long (1 : Int64)), (.long (1 : Int64)), (.ref a1)]))
  refine own_go (fun t_ k => XS.ladd X12.here hx rfl (hb hby d3_77) rfl k) ?_
  show WP p e below _ (T12.setTop (mkF m 78 #[.val (.ref a1), .val (.int p2), .val (.int (0 : Int32))] [(.long (2 : Int64)), (.ref a1)]))
  obtain ⟨T13, h13, X13, e13, W13, st13⟩ := putF X12 hx hZ hown (host := "") (Or.inl (hw _ (List.mem_of_getElem? (i := 18) rfl))) Via.refl e12 (F_s.other W11 (Or.inl ne_b)) (E_a.wr W11) (Or.inl (hw _ (List.mem_of_getElem? (i := 19) rfl))) (hw _ (List.mem_of_getElem? (i := 1) rfl)) (ty := .long) (by decide) rfl rfl (g := (mkF m 78 #[.val (.ref a1), .val (.int p2), .val (.int (0 : Int32))] [(.long (2 : Int64)), (.ref a1)])) rfl rfl (hb hby d3_78)
  refine own_go st13 ?_
  have Fw13 := (F_s.other W11 (Or.inl ne_b)).same W13
  have N13 := Fr.snoc X13 N11 g_a
  have K13 : Keep h0 h13 [a1, b] := K11.wr W13 (Or.inl (List.mem_of_getElem? (i := 0) rfl))
  show WP p e below _ (T13.setTop (mkF m 81 #[.val (.ref a1), .val (.int p2), .val (.int (0 : Int32))] []))
  exact own_ret0 X13 hx Bd.notSynchronized Bd.returns (hb hby d3_81) (by rw [e13]; exact ⟨rfl, N13, K13, ((E_a.wr W11).wr W13), ((F_b.other W11 (Or.inl ne_b)).other W13 (Or.inr (slot_ne (Or.inl (hw _ (List.mem_of_getElem? (i := 12) rfl))) (Or.inl (hw _ (List.mem_of_getElem? (i := 19) rfl))) (by decide) (t := (.array (.array .byte))) (t' := .long) (by decide) (by decide)))), Fw13, ((V_t.other W11 ne_tb).other W13 (Ne.symm ne_t)), (own_put xs _ _ hl ▸ (V11.other W13 (Ne.symm ne_b))), ne_t, ne_b, ne_tb⟩) (by decide) (by decide)
def Q_rm_a2 (Z : State) (a1 : Addr) (p2 : Int32) (t : Addr) (k : ClassId) (b : Addr) (kb : ClassId) (xs : List Int32) (h0 : Heap) (n0 : Nat) (v : Option Value) (h : Heap) (L : List Loc) : Prop := v = none ∧ Fr n0 L ∧ Keep h0 h [a1, b] ∧ BB Z h a1 t k b kb (3 : Int64) (xs ++ [(p2.toInt8.toInt32)])
theorem ef_rm_a2 (m : MethodId) (x0 : Addr) (x1 : Int32) : entryFrame m #[(.ref x0), (.int x1)] 3 = mkF m 0 #[.val (.ref x0), .val (.int x1), .unset] [] := by first | (simp [entryFrame, mkF, argsToLocals, Value.category]; done) | rfl
set_option maxRecDepth 65536 in
set_option maxHeartbeats 40000000 in
theorem rm_a2 (l : Launch) (Z : State) (a0 : Array Value) (hw : ∀ d ∈ tables_1, d.before a0 Z = true) (ws : List Jvm.Cond) (a1 : Addr) (p2 : Int32) (t : Addr) (k : ClassId) (b : Addr) (kb : ClassId) (xs : List Int32) (h0 : Heap) (n0 : Nat) (G : BB Z h0 a1 t k b kb (2 : Int64) xs) (hl : xs.length = 2) (g_a : n0 ≤ a1) (g_b : n0 ≤ b) :
    MetFree l (⟨"com/example/vestry/vestry/ByteBlocks", "append", "(B)V"⟩ : MethodName) (head1 (Jvm.Cond.code (⟨"com/example/vestry/vestry/ByteBlocks", "append", "(B)V"⟩ : MethodName) prog_3_method_3_code 3 none :: ws) ({ frames := 0, cells := 0, slots := 0, locals := 0 } : Room)) (fun a U => a = #[(.ref a1), (.int p2)] ∧ Z.Warmed39 U.vm ∧ U.heap = h0) (fun _ _ _ _ _ => True) (fun _ U o U' => ∃ v L, o = .returned v ∧ (Q_rm_a2 Z a1 p2 t k b kb xs h0 n0) v U'.heap L ∧ FrameEnd U o U' L ({ frames := 0, cells := 0, slots := 0, locals := 0 } : Room).cells ({ frames := 0, cells := 0, slots := 0, locals := 0 } : Room).slots) := by
  refine MetFree.of_bodySF (plainFor_of_name pn_0) hisR ?_
  intro p e s m args below meth c s₁ Bd hml0 hP hK
  obtain ⟨rfl, hZ, hh⟩ := hP
  have hx := Bd.exec
  have hby := Bd.bytes
  have hml : c.maxLocals = 3 := hml0
  have hown : s.vm.findClass "com/example/vestry/vestry/ByteBlocks" = some m.cls := findClass_of_methodNamed Bd.named
  have hnm := (name_of_methodNamed Bd.named Bd.method).1
  have X0 : Stand p l e ({ frames := 0, cells := 0, slots := 0, locals := 0 } : Room) s m #[(.ref a1), (.int p2)] below meth c s₁ [] 0 0 := Stand.of_body Bd
  have e0 : s₁.heap = h0 := by rw [← hh, Bd.state]; rfl
  have N0 := Fr.nil n0
  show WP p e below (GG (Q_rm_a2 Z a1 p2 t k b kb xs h0 n0) s ({ frames := 0, cells := 0, slots := 0, locals := 0 } : Room).cells ({ frames := 0, cells := 0, slots := 0, locals := 0 } : Room).slots) (s₁.setTop (entryFrame m #[(.ref a1), (.int p2)] 3))
  rw [ef_rm_a2 m a1 p2]
  obtain ⟨E_a, F_b, F_s, V_t, V_b, ne_t, ne_b, ne_tb⟩ := G
  have V_p := V_b.pad (pad_rep _ (Value.int (0 : Int32)) 1)
  show WP p e below _ (s₁.setTop (mkF m 0 #[.val (.ref a1), .val (.int p2), .unset] []))
  refine own_go (fun t_ k => XS.aloadN X0.here hx rfl (hb hby d3_0) rfl rfl k) ?_
  show WP p e below _ (s₁.setTop (mkF m 1 #[.val (.ref a1), .val (.int p2), .unset] [(.ref a1)]))
  obtain ⟨T1, X1, e1, st1⟩ := getF X0 hx hZ hown (host := "") (Or.inl (hw _ (List.mem_of_getElem? (i := 18) rfl))) Via.refl e0 F_s (g := (mkF m 1 #[.val (.ref a1), .val (.int p2), .unset] [(.ref a1)])) rfl rfl (hb hby d3_1)
  refine own_go st1 ?_
  show WP p e below _ (T1.setTop (mkF m 4 #[.val (.ref a1), .val (.int p2), .unset] [(.long (2 : Int64))]))
  refine own_go (fun t_ k => XS.bipush X1.here hx rfl (hb hby d3_4) k) ?_
  show WP p e below _ (T1.setTop (mkF m 6 #[.val (.ref a1), .val (.int p2), .unset] [(.int (16 : Int32)), (.long (2 : Int64))]))
  refine own_go (fun t_ k => XS.lushr X1.here hx rfl (hb hby d3_6) rfl k) ?_
  show WP p e below _ (T1.setTop (mkF m 7 #[.val (.ref a1), .val (.int p2), .unset] [(.long (0 : Int64))]))
  refine own_go (fun t_ k => XS.l2i X1.here hx rfl (hb hby d3_7) rfl k) ?_
  show WP p e below _ (T1.setTop (mkF m 8 #[.val (.ref a1), .val (.int p2), .unset] [(.int (0 : Int32))]))
  refine own_go (fun t_ k => XS.istoreN X1.here hx rfl (hb hby d3_8) rfl (l' := #[.val (.ref a1), .val (.int p2), .val (.int (0 : Int32))]) rfl k) ?_
  show WP p e below _ (T1.setTop (mkF m 9 #[.val (.ref a1), .val (.int p2), .val (.int (0 : Int32))] []))
  refine own_go (fun t_ k => XS.iloadN X1.here hx rfl (hb hby d3_9) rfl k) ?_
  show WP p e below _ (T1.setTop (mkF m 10 #[.val (.ref a1), .val (.int p2), .val (.int (0 : Int32))] [(.int (0 : Int32))]))
  refine own_go (fun t_ k => XS.aloadN X1.here hx rfl (hb hby d3_10) rfl rfl k) ?_
  show WP p e below _ (T1.setTop (mkF m 11 #[.val (.ref a1), .val (.int p2), .val (.int (0 : Int32))] [(.ref a1), (.int (0 : Int32))]))
  obtain ⟨T2, X2, e2, st2⟩ := getF X1 hx hZ hown (host := "") (Or.inl (hw _ (List.mem_of_getElem? (i := 11) rfl))) Via.refl e1 F_b (g := (mkF m 11 #[.val (.ref a1), .val (.int p2), .val (.int (0 : Int32))] [(.ref a1), (.int (0 : Int32))])) rfl rfl (hb hby d3_11)
  refine own_go st2 ?_
  show WP p e below _ (T2.setTop (mkF m 14 #[.val (.ref a1), .val (.int p2), .val (.int (0 : Int32))] [(.ref t), (.int (0 : Int32))]))
  obtain ⟨cl3, Ar3, -, S3, M3, -, -⟩ := id (V_t)
  refine own_go (fun t_ k => X2.arraylength hx (by rw [e2]; exact Ar3.1) (State.isArrayOf_alike hZ.alike Ar3.2.1) (g := (mkF m 14 #[.val (.ref a1), .val (.int p2), .val (.int (0 : Int32))] [(.ref t), (.int (0 : Int32))])) rfl rfl (hb hby d3_14) _ (by rw [len_of S3 M3]; exact k)) ?_
  show WP p e below _ (T2.setTop (mkF m 15 #[.val (.ref a1), .val (.int p2), .val (.int (0 : Int32))] [(.int (1 : Int32)), (.int (0 : Int32))]))
  have hc15_4 : ¬ ((0 : Int32) = (1 : Int32)) := by decide
  refine own_go (fun t_ k => XS.icmpYes X2.here hx rfl (pc0 := 15) (pc' := 35) rfl (hb hby d3_15) rfl (feq hc15_4).2 (by decide) (by decide) k) ?_
  show WP p e below _ (T2.setTop (mkF m 35 #[.val (.ref a1), .val (.int p2), .val (.int (0 : Int32))] []))
  refine own_go (fun t_ k => XS.aloadN X2.here hx rfl (hb hby d3_35) rfl rfl k) ?_
  show WP p e below _ (T2.setTop (mkF m 36 #[.val (.ref a1), .val (.int p2), .val (.int (0 : Int32))] [(.ref a1)]))
  obtain ⟨T5, X5, e5, st5⟩ := getF X2 hx hZ hown (host := "") (Or.inl (hw _ (List.mem_of_getElem? (i := 11) rfl))) Via.refl e2 F_b (g := (mkF m 36 #[.val (.ref a1), .val (.int p2), .val (.int (0 : Int32))] [(.ref a1)])) rfl rfl (hb hby d3_36)
  refine own_go st5 ?_
  show WP p e below _ (T5.setTop (mkF m 39 #[.val (.ref a1), .val (.int p2), .val (.int (0 : Int32))] [(.ref t)]))
  refine own_go (fun t_ k => XS.iloadN X5.here hx rfl (hb hby d3_39) rfl k) ?_
  show WP p e below _ (T5.setTop (mkF m 40 #[.val (.ref a1), .val (.int p2), .val (.int (0 : Int32))] [(.int (0 : Int32)), (.ref t)]))
  obtain ⟨cl6, Ar6, -, S6, M6, H6, -⟩ := id (V_t)
  have hin6 : ¬ ((0 : Int32) < 0 ∨ cl6.slots.size ≤ ((0 : Int32)).toNatClampNeg) := inb_of S6 (⟨by decide, by decide⟩)
  refine own_go (fun t_ k => X5.aaload hx (j := (0 : Int32)) (v := (.ref b)) (by rw [e5]; exact Ar6.1) (State.isArrayOf_alike hZ.alike Ar6.2.1) rfl Ar6.2.2 hin6 (H6.at hin6 rfl) (g := (mkF m 40 #[.val (.ref a1), .val (.int p2), .val (.int (0 : Int32))] [(.int (0 : Int32)), (.ref t)])) rfl rfl (hb hby d3_40) _ k) ?_
  show WP p e below _ (T5.setTop (mkF m 41 #[.val (.ref a1), .val (.int p2), .val (.int (0 : Int32))] [(.ref b)]))
  refine own_go (fun t_ k => XS.ifnonnullYes X5.here hx rfl (pc0 := 41) (pc' := 54) rfl (hb hby d3_41) rfl (by decide) (by decide) k) ?_
  show WP p e below _ (T5.setTop (mkF m 54 #[.val (.ref a1), .val (.int p2), .val (.int (0 : Int32))] []))
  refine own_go (fun t_ k => XS.aloadN X5.here hx rfl (hb hby d3_54) rfl rfl k) ?_
  show WP p e below _ (T5.setTop (mkF m 55 #[.val (.ref a1), .val (.int p2), .val (.int (0 : Int32))] [(.ref a1)]))
  obtain ⟨T7, X7, e7, st7⟩ := getF X5 hx hZ hown (host := "") (Or.inl (hw _ (List.mem_of_getElem? (i := 11) rfl))) Via.refl e5 F_b (g := (mkF m 55 #[.val (.ref a1), .val (.int p2), .val (.int (0 : Int32))] [(.ref a1)])) rfl rfl (hb hby d3_55)
  refine own_go st7 ?_
  show WP p e below _ (T7.setTop (mkF m 58 #[.val (.ref a1), .val (.int p2), .val (.int (0 : Int32))] [(.ref t)]))
  refine own_go (fun t_ k => XS.iloadN X7.here hx rfl (hb hby d3_58) rfl k) ?_
  show WP p e below _ (T7.setTop (mkF m 59 #[.val (.ref a1), .val (.int p2), .val (.int (0 : Int32))] [(.int (0 : Int32)), (.ref t)]))
  obtain ⟨cl8, Ar8, -, S8, M8, H8, -⟩ := id (V_t)
  have hin8 : ¬ ((0 : Int32) < 0 ∨ cl8.slots.size ≤ ((0 : Int32)).toNatClampNeg) := inb_of S8 (⟨by decide, by decide⟩)
  refine own_go (fun t_ k => X7.aaload hx (j := (0 : Int32)) (v := (.ref b)) (by rw [e7]; exact Ar8.1) (State.isArrayOf_alike hZ.alike Ar8.2.1) rfl Ar8.2.2 hin8 (H8.at hin8 rfl) (g := (mkF m 59 #[.val (.ref a1), .val (.int p2), .val (.int (0 : Int32))] [(.int (0 : Int32)), (.ref t)])) rfl rfl (hb hby d3_59) _ k) ?_
  show WP p e below _ (T7.setTop (mkF m 60 #[.val (.ref a1), .val (.int p2), .val (.int (0 : Int32))] [(.ref b)]))
  refine own_go (fun t_ k => XS.aloadN X7.here hx rfl (hb hby d3_60) rfl rfl k) ?_
  show WP p e below _ (T7.setTop (mkF m 61 #[.val (.ref a1), .val (.int p2), .val (.int (0 : Int32))] [(.ref a1), (.ref b)]))
  obtain ⟨T9, X9, e9, st9⟩ := getF X7 hx hZ hown (host := "") (Or.inl (hw _ (List.mem_of_getElem? (i := 18) rfl))) Via.refl e7 F_s (g := (mkF m 61 #[.val (.ref a1), .val (.int p2), .val (.int (0 : Int32))] [(.ref a1), (.ref b)])) rfl rfl (hb hby d3_61)
  refine own_go st9 ?_
  show WP p e below _ (T9.setTop (mkF m 64 #[.val (.ref a1), .val (.int p2), .val (.int (0 : Int32))] [(.long (2 : Int64)), (.ref b)]))
  refine own_go (fun t_ k => X9.ldc2Long hx hown (mvT hZ (hw _ (List.mem_of_getElem? (i := 23) rfl))) (g := (mkF m 64 #[.val (.ref a1), .val (.int p2), .val (.int (0 : Int32))] [(.long (2 : Int64)), (.ref b)])) rfl (hb hby d3_64) _ k) ?_
  show WP p e below _ (T9.setTop (mkF m 67 #[.val (.ref a1), .val (.int p2), .val (.int (0 : Int32))] [(.long (65535 : Int64)), (.long (2 : Int64)), (.ref b)]))
  refine own_go (fun t_ k => XS.land X9.here hx rfl (hb hby d3_67) rfl k) ?_
  show WP p e below _ (T9.setTop (mkF m 68 #[.val (.ref a1), .val (.int p2), .val (.int (0 : Int32))] [(.long (2 : Int64)), (.ref b)]))
  refine own_go (fun t_ k => XS.l2i X9.here hx rfl (hb hby d3_68) rfl k) ?_
  show WP p e below _ (T9.setTop (mkF m 69 #[.val (.ref a1), .val (.int p2), .val (.int (0 : Int32))] [(.int (2 : Int32)), (.ref b)]))
  refine own_go (fun t_ k => XS.iloadN X9.here hx rfl (hb hby d3_69) rfl k) ?_
  show WP p e below _ (T9.setTop (mkF m 70 #[.val (.ref a1), .val (.int p2), .val (.int (0 : Int32))] [(.int p2), (.int (2 : Int32)), (.ref b)]))
  obtain ⟨cl10, Ar10, q10, S10, M10, H10, G10⟩ := id (V_p)
  have hin10 : ¬ ((2 : Int32) < 0 ∨ cl10.slots.size ≤ ((2 : Int32)).toNatClampNeg) := inb_of S10 (⟨by decide, by decide⟩)
  obtain ⟨T11, h11, X11, e11, W11, st11⟩ := stB X9 hx hZ e9 Ar10 (j := (2 : Int32)) hin10 (g := (mkF m 70 #[.val (.ref a1), .val (.int p2), .val (.int (0 : Int32))] [(.int p2), (.int (2 : Int32)), (.ref b)])) rfl rfl (hb hby d3_70)
  refine own_go st11 ?_
  have V11 := Arv.set Ar10 q10 S10 M10 H10 G10 (fits_nar_byte _) W11 2 rfl (by simp [hl])
  have N11 := Fr.snoc X11 N0 g_b
  have K11 : Keep h0 h11 [a1, b] := (Keep.refl h0 [a1, b]).wr W11 (Or.inl (List.mem_of_getElem? (i := 1) rfl))
  show WP p e below _ (T11.setTop (mkF m 71 #[.val (.ref a1), .val (.int p2), .val (.int (0 : Int32))] []))
  refine own_go (fun t_ k => XS.aloadN X11.here hx rfl (hb hby d3_71) rfl rfl k) ?_
  show WP p e below _ (T11.setTop (mkF m 72 #[.val (.ref a1), .val (.int p2), .val (.int (0 : Int32))] [(.ref a1)]))
  refine own_go (fun t_ k => XS.dup X11.here hx rfl (hb hby d3_72) rfl rfl k) ?_
  show WP p e below _ (T11.setTop (mkF m 73 #[.val (.ref a1), .val (.int p2), .val (.int (0 : Int32))] [(.ref a1), (.ref a1)]))
  obtain ⟨T12, X12, e12, st12⟩ := getF X11 hx hZ hown (host := "") (Or.inl (hw _ (List.mem_of_getElem? (i := 18) rfl))) Via.refl e11 (F_s.other W11 (Or.inl ne_b)) (g := (mkF m 73 #[.val (.ref a1), .val (.int p2), .val (.int (0 : Int32))] [(.ref a1), (.ref a1)])) rfl rfl (hb hby d3_73)
  refine own_go st12 ?_
  show WP p e below _ (T12.setTop (mkF m 76 #[.val (.ref a1), .val (.int p2), .val (.int (0 : Int32))] [(.long (2 : Int64)), (.ref a1)]))
  refine own_go (fun t_ k => XS.lconst X12.here hx rfl (hb hby d3_76) k) ?_
  show WP p e below _ (T12.setTop (mkF m 77 #[.val (.ref a1), .val (.int p2), .val (.int (0 : Int32))] [(.long (1 : Int64)), (.long (2 : Int64)), (.ref a1)]))
  refine own_go (fun t_ k => XS.ladd X12.here hx rfl (hb hby d3_77) rfl k) ?_
  show WP p e below _ (T12.setTop (mkF m 78 #[.val (.ref a1), .val (.int p2), .val (.int (0 : Int32))] [(.long (3 : Int64)), (.ref a1)]))
  obtain ⟨T13, h13, X13, e13, W13, st13⟩ := putF X12 hx hZ hown (host := "") (Or.inl (hw _ (List.mem_of_getElem? (i := 18) rfl))) Via.refl e12 (F_s.other W11 (Or.inl ne_b)) (E_a.wr W11) (Or.inl (hw _ (List.mem_of_getElem? (i := 19) rfl))) (hw _ (List.mem_of_getElem? (i := 1) rfl)) (ty := .long) (by decide) rfl rfl (g := (mkF m 78 #[.val (.ref a1), .val (.int p2), .val (.int (0 : Int32))] [(.long (3 : Int64)), (.ref a1)])) rfl rfl (hb hby d3_78)
  refine own_go st13 ?_
  have Fw13 := (F_s.other W11 (Or.inl ne_b)).same W13
  have N13 := Fr.snoc X13 N11 g_a
  have K13 : Keep h0 h13 [a1, b] := K11.wr W13 (Or.inl (List.mem_of_getElem? (i := 0) rfl))
  show WP p e below _ (T13.setTop (mkF m 81 #[.val (.ref a1), .val (.int p2), .val (.int (0 : Int32))] []))
  exact own_ret0 X13 hx Bd.notSynchronized Bd.returns (hb hby d3_81) (by rw [e13]; exact ⟨rfl, N13, K13, ((E_a.wr W11).wr W13), ((F_b.other W11 (Or.inl ne_b)).other W13 (Or.inr (slot_ne (Or.inl (hw _ (List.mem_of_getElem? (i := 12) rfl))) (Or.inl (hw _ (List.mem_of_getElem? (i := 19) rfl))) (by decide) (t := (.array (.array .byte))) (t' := .long) (by decide) (by decide)))), Fw13, ((V_t.other W11 ne_tb).other W13 (Ne.symm ne_t)), (own_put xs _ _ hl ▸ (V11.other W13 (Ne.symm ne_b))), ne_t, ne_b, ne_tb⟩) (by decide) (by decide)
def Q_rm_a3 (Z : State) (a1 : Addr) (p2 : Int32) (t : Addr) (k : ClassId) (b : Addr) (kb : ClassId) (xs : List Int32) (h0 : Heap) (n0 : Nat) (v : Option Value) (h : Heap) (L : List Loc) : Prop := v = none ∧ Fr n0 L ∧ Keep h0 h [a1, b] ∧ BB Z h a1 t k b kb (4 : Int64) (xs ++ [(p2.toInt8.toInt32)])
theorem ef_rm_a3 (m : MethodId) (x0 : Addr) (x1 : Int32) : entryFrame m #[(.ref x0), (.int x1)] 3 = mkF m 0 #[.val (.ref x0), .val (.int x1), .unset] [] := by first | (simp [entryFrame, mkF, argsToLocals, Value.category]; done) | rfl
set_option maxRecDepth 65536 in
set_option maxHeartbeats 40000000 in
theorem rm_a3 (l : Launch) (Z : State) (a0 : Array Value) (hw : ∀ d ∈ tables_1, d.before a0 Z = true) (ws : List Jvm.Cond) (a1 : Addr) (p2 : Int32) (t : Addr) (k : ClassId) (b : Addr) (kb : ClassId) (xs : List Int32) (h0 : Heap) (n0 : Nat) (G : BB Z h0 a1 t k b kb (3 : Int64) xs) (hl : xs.length = 3) (g_a : n0 ≤ a1) (g_b : n0 ≤ b) :
    MetFree l (⟨"com/example/vestry/vestry/ByteBlocks", "append", "(B)V"⟩ : MethodName) (head1 (Jvm.Cond.code (⟨"com/example/vestry/vestry/ByteBlocks", "append", "(B)V"⟩ : MethodName) prog_3_method_3_code 3 none :: ws) ({ frames := 0, cells := 0, slots := 0, locals := 0 } : Room)) (fun a U => a = #[(.ref a1), (.int p2)] ∧ Z.Warmed39 U.vm ∧ U.heap = h0) (fun _ _ _ _ _ => True) (fun _ U o U' => ∃ v L, o = .returned v ∧ (Q_rm_a3 Z a1 p2 t k b kb xs h0 n0) v U'.heap L ∧ FrameEnd U o U' L ({ frames := 0, cells := 0, slots := 0, locals := 0 } : Room).cells ({ frames := 0, cells := 0, slots := 0, locals := 0 } : Room).slots) := by
  refine MetFree.of_bodySF (plainFor_of_name pn_0) hisR ?_
  intro p e s m args below meth c s₁ Bd hml0 hP hK
  obtain ⟨rfl, hZ, hh⟩ := hP
  have hx := Bd.exec
  have hby := Bd.bytes
  have hml : c.maxLocals = 3 := hml0
  have hown : s.vm.findClass "com/example/vestry/vestry/ByteBlocks" = some m.cls := findClass_of_methodNamed Bd.named
  have hnm := (name_of_methodNamed Bd.named Bd.method).1
  have X0 : Stand p l e ({ frames := 0, cells := 0, slots := 0, locals := 0 } : Room) s m #[(.ref a1), (.int p2)] below meth c s₁ [] 0 0 := Stand.of_body Bd
  have e0 : s₁.heap = h0 := by rw [← hh, Bd.state]; rfl
  have N0 := Fr.nil n0
  show WP p e below (GG (Q_rm_a3 Z a1 p2 t k b kb xs h0 n0) s ({ frames := 0, cells := 0, slots := 0, locals := 0 } : Room).cells ({ frames := 0, cells := 0, slots := 0, locals := 0 } : Room).slots) (s₁.setTop (entryFrame m #[(.ref a1), (.int p2)] 3))
  rw [ef_rm_a3 m a1 p2]
  obtain ⟨E_a, F_b, F_s, V_t, V_b, ne_t, ne_b, ne_tb⟩ := G
  have V_p := V_b.pad (pad_rep _ (Value.int (0 : Int32)) 1)
  show WP p e below _ (s₁.setTop (mkF m 0 #[.val (.ref a1), .val (.int p2), .unset] []))
  refine own_go (fun t_ k => XS.aloadN X0.here hx rfl (hb hby d3_0) rfl rfl k) ?_
  show WP p e below _ (s₁.setTop (mkF m 1 #[.val (.ref a1), .val (.int p2), .unset] [(.ref a1)]))
  obtain ⟨T1, X1, e1, st1⟩ := getF X0 hx hZ hown (host := "") (Or.inl (hw _ (List.mem_of_getElem? (i := 18) rfl))) Via.refl e0 F_s (g := (mkF m 1 #[.val (.ref a1), .val (.int p2), .unset] [(.ref a1)])) rfl rfl (hb hby d3_1)
  refine own_go st1 ?_
  show WP p e below _ (T1.setTop (mkF m 4 #[.val (.ref a1), .val (.int p2), .unset] [(.long (3 : Int64))]))
  refine own_go (fun t_ k => XS.bipush X1.here hx rfl (hb hby d3_4) k) ?_
  show WP p e below _ (T1.setTop (mkF m 6 #[.val (.ref a1), .val (.int p2), .unset] [(.int (16 : Int32)), (.long (3 : Int64))]))
  refine own_go (fun t_ k => XS.lushr X1.here hx rfl (hb hby d3_6) rfl k) ?_
  show WP p e below _ (T1.setTop (mkF m 7 #[.val (.ref a1), .val (.int p2), .unset] [(.long (0 : Int64))]))
  refine own_go (fun t_ k => XS.l2i X1.here hx rfl (hb hby d3_7) rfl k) ?_
  show WP p e below _ (T1.setTop (mkF m 8 #[.val (.ref a1), .val (.int p2), .unset] [(.int (0 : Int32))]))
  refine own_go (fun t_ k => XS.istoreN X1.here hx rfl (hb hby d3_8) rfl (l' := #[.val (.ref a1), .val (.int p2), .val (.int (0 : Int32))]) rfl k) ?_
  show WP p e below _ (T1.setTop (mkF m 9 #[.val (.ref a1), .val (.int p2), .val (.int (0 : Int32))] []))
  refine own_go (fun t_ k => XS.iloadN X1.here hx rfl (hb hby d3_9) rfl k) ?_
  show WP p e below _ (T1.setTop (mkF m 10 #[.val (.ref a1), .val (.int p2), .val (.int (0 : Int32))] [(.int (0 : Int32))]))
  refine own_go (fun t_ k => XS.aloadN X1.here hx rfl (hb hby d3_10) rfl rfl k) ?_
  show WP p e below _ (T1.setTop (mkF m 11 #[.val (.ref a1), .val (.int p2), .val (.int (0 : Int32))] [(.ref a1), (.int (0 : Int32))]))
  obtain ⟨T2, X2, e2, st2⟩ := getF X1 hx hZ hown (host := "") (Or.inl (hw _ (List.mem_of_getElem? (i := 11) rfl))) Via.refl e1 F_b (g := (mkF m 11 #[.val (.ref a1), .val (.int p2), .val (.int (0 : Int32))] [(.ref a1), (.int (0 : Int32))])) rfl rfl (hb hby d3_11)
  refine own_go st2 ?_
  show WP p e below _ (T2.setTop (mkF m 14 #[.val (.ref a1), .val (.int p2), .val (.int (0 : Int32))] [(.ref t), (.int (0 : Int32))]))
  obtain ⟨cl3, Ar3, -, S3, M3, -, -⟩ := id (V_t)
  refine own_go (fun t_ k => X2.arraylength hx (by rw [e2]; exact Ar3.1) (State.isArrayOf_alike hZ.alike Ar3.2.1) (g := (mkF m 14 #[.val (.ref a1), .val (.int p2), .val (.int (0 : Int32))] [(.ref t), (.int (0 : Int32))])) rfl rfl (hb hby d3_14) _ (by rw [len_of S3 M3]; exact k)) ?_
  show WP p e below _ (T2.setTop (mkF m 15 #[.val (.ref a1), .val (.int p2), .val (.int (0 : Int32))] [(.int (1 : Int32)), (.int (0 : Int32))]))
  have hc15_4 : ¬ ((0 : Int32) = (1 : Int32)) := by decide
  refine own_go (fun t_ k => XS.icmpYes X2.here hx rfl (pc0 := 15) (pc' := 35) rfl (hb hby d3_15) rfl (feq hc15_4).2 (by decide) (by decide) k) ?_
  show WP p e below _ (T2.setTop (mkF m 35 #[.val (.ref a1), .val (.int p2), .val (.int (0 : Int32))] []))
  refine own_go (fun t_ k => XS.aloadN X2.here hx rfl (hb hby d3_35) rfl rfl k) ?_
  show WP p e below _ (T2.setTop (mkF m 36 #[.val (.ref a1), .val (.int p2), .val (.int (0 : Int32))] [(.ref a1)]))
  obtain ⟨T5, X5, e5, st5⟩ := getF X2 hx hZ hown (host := "") (Or.inl (hw _ (List.mem_of_getElem? (i := 11) rfl))) Via.refl e2 F_b (g := (mkF m 36 #[.val (.ref a1), .val (.int p2), .val (.int (0 : Int32))] [(.ref a1)])) rfl rfl (hb hby d3_36)
  refine own_go st5 ?_
  show WP p e below _ (T5.setTop (mkF m 39 #[.val (.ref a1), .val (.int p2), .val (.int (0 : Int32))] [(.ref t)]))
  refine own_go (fun t_ k => XS.iloadN X5.here hx rfl (hb hby d3_39) rfl k) ?_
  show WP p e below _ (T5.setTop (mkF m 40 #[.val (.ref a1), .val (.int p2), .val (.int (0 : Int32))] [(.int (0 : Int32)), (.ref t)]))
  obtain ⟨cl6, Ar6, -, S6, M6, H6, -⟩ := id (V_t)
  have hin6 : ¬ ((0 : Int32) < 0 ∨ cl6.slots.size ≤ ((0 : Int32)).toNatClampNeg) := inb_of S6 (⟨by decide, by decide⟩)
  refine own_go (fun t_ k => X5.aaload hx (j := (0 : Int32)) (v := (.ref b)) (by rw [e5]; exact Ar6.1) (State.isArrayOf_alike hZ.alike Ar6.2.1) rfl Ar6.2.2 hin6 (H6.at hin6 rfl) (g := (mkF m 40 #[.val (.ref a1), .val (.int p2), .val (.int (0 : Int32))] [(.int (0 : Int32)), (.ref t)])) rfl rfl (hb hby d3_40) _ k) ?_
  show WP p e below _ (T5.setTop (mkF m 41 #[.val (.ref a1), .val (.int p2), .val (.int (0 : Int32))] [(.ref b)]))
  refine own_go (fun t_ k => XS.ifnonnullYes X5.here hx rfl (pc0 := 41) (pc' := 54) rfl (hb hby d3_41) rfl (by decide) (by decide) k) ?_
  show WP p e below _ (T5.setTop (mkF m 54 #[.val (.ref a1), .val (.int p2), .val (.int (0 : Int32))] []))
  refine own_go (fun t_ k => XS.aloadN X5.here hx rfl (hb hby d3_54) rfl rfl k) ?_
  show WP p e below _ (T5.setTop (mkF m 55 #[.val (.ref a1), .val (.int p2), .val (.int (0 : Int32))] [(.ref a1)]))
  obtain ⟨T7, X7, e7, st7⟩ := getF X5 hx hZ hown (host := "") (Or.inl (hw _ (List.mem_of_getElem? (i := 11) rfl))) Via.refl e5 F_b (g := (mkF m 55 #[.val (.ref a1), .val (.int p2), .val (.int (0 : Int32))] [(.ref a1)])) rfl rfl (hb hby d3_55)
  refine own_go st7 ?_
  show WP p e below _ (T7.setTop (mkF m 58 #[.val (.ref a1), .val (.int p2), .val (.int (0 : Int32))] [(.ref t)]))
  refine own_go (fun t_ k => XS.iloadN X7.here hx rfl (hb hby d3_58) rfl k) ?_
  show WP p e below _ (T7.setTop (mkF m 59 #[.val (.ref a1), .val (.int p2), .val (.int (0 : Int32))] [(.int (0 : Int32)), (.ref t)]))
  obtain ⟨cl8, Ar8, -, S8, M8, H8, -⟩ := id (V_t)
  have hin8 : ¬ ((0 : Int32) < 0 ∨ cl8.slots.size ≤ ((0 : Int32)).toNatClampNeg) := inb_of S8 (⟨by decide, by decide⟩)
  refine own_go (fun t_ k => X7.aaload hx (j := (0 : Int32)) (v := (.ref b)) (by rw [e7]; exact Ar8.1) (State.isArrayOf_alike hZ.alike Ar8.2.1) rfl Ar8.2.2 hin8 (H8.at hin8 rfl) (g := (mkF m 59 #[.val (.ref a1), .val (.int p2), .val (.int (0 : Int32))] [(.int (0 : Int32)), (.ref t)])) rfl rfl (hb hby d3_59) _ k) ?_
  show WP p e below _ (T7.setTop (mkF m 60 #[.val (.ref a1), .val (.int p2), .val (.int (0 : Int32))] [(.ref b)]))
  refine own_go (fun t_ k => XS.aloadN X7.here hx rfl (hb hby d3_60) rfl rfl k) ?_
  show WP p e below _ (T7.setTop (mkF m 61 #[.val (.ref a1), .val (.int p2), .val (.int (0 : Int32))] [(.ref a1), (.ref b)]))
  obtain ⟨T9, X9, e9, st9⟩ := getF X7 hx hZ hown (host := "") (Or.inl (hw _ (List.mem_of_getElem? (i := 18) rfl))) Via.refl e7 F_s (g := (mkF m 61 #[.val (.ref a1), .val (.int p2), .val (.int (0 : Int32))] [(.ref a1), (.ref b)])) rfl rfl (hb hby d3_61)
  refine own_go st9 ?_
  show WP p e below _ (T9.setTop (mkF m 64 #[.val (.ref a1), .val (.int p2), .val (.int (0 : Int32))] [(.long (3 : Int64)), (.ref b)]))
  refine own_go (fun t_ k => X9.ldc2Long hx hown (mvT hZ (hw _ (List.mem_of_getElem? (i := 23) rfl))) (g := (mkF m 64 #[.val (.ref a1), .val (.int p2), .val (.int (0 : Int32))] [(.long (3 : Int64)), (.ref b)])) rfl (hb hby d3_64) _ k) ?_
  show WP p e below _ (T9.setTop (mkF m 67 #[.val (.ref a1), .val (.int p2), .val (.int (0 : Int32))] [(.long (65535 : Int64)), (.long (3 : Int64)), (.ref b)]))
  refine own_go (fun t_ k => XS.land X9.here hx rfl (hb hby d3_67) rfl k) ?_
  show WP p e below _ (T9.setTop (mkF m 68 #[.val (.ref a1), .val (.int p2), .val (.int (0 : Int32))] [(.long (3 : Int64)), (.ref b)]))
  refine own_go (fun t_ k => XS.l2i X9.here hx rfl (hb hby d3_68) rfl k) ?_
  show WP p e below _ (T9.setTop (mkF m 69 #[.val (.ref a1), .val (.int p2), .val (.int (0 : Int32))] [(.int (3 : Int32)), (.ref b)]))
  refine own_go (fun t_ k => XS.iloadN X9.here hx rfl (hb hby d3_69) rfl k) ?_
  show WP p e below _ (T9.setTop (mkF m 70 #[.val (.ref a1), .val (.int p2), .val (.int (0 : Int32))] [(.int p2), (.int (3 : Int32)), (.ref b)]))
  obtain ⟨cl10, Ar10, q10, S10, M10, H10, G10⟩ := id (V_p)
  have hin10 : ¬ ((3 : Int32) < 0 ∨ cl10.slots.size ≤ ((3 : Int32)).toNatClampNeg) := inb_of S10 (⟨by decide, by decide⟩)
  obtain ⟨T11, h11, X11, e11, W11, st11⟩ := stB X9 hx hZ e9 Ar10 (j := (3 : Int32)) hin10 (g := (mkF m 70 #[.val (.ref a1), .val (.int p2), .val (.int (0 : Int32))] [(.int p2), (.int (3 : Int32)), (.ref b)])) rfl rfl (hb hby d3_70)
  refine own_go st11 ?_
  have V11 := Arv.set Ar10 q10 S10 M10 H10 G10 (fits_nar_byte _) W11 3 rfl (by simp [hl])
  have N11 := Fr.snoc X11 N0 g_b
  have K11 : Keep h0 h11 [a1, b] := (Keep.refl h0 [a1, b]).wr W11 (Or.inl (List.mem_of_getElem? (i := 1) rfl))
  show WP p e below _ (T11.setTop (mkF m 71 #[.val (.ref a1), .val (.int p2), .val (.int (0 : Int32))] []))
  refine own_go (fun t_ k => XS.aloadN X11.here hx rfl (hb hby d3_71) rfl rfl k) ?_
  show WP p e below _ (T11.setTop (mkF m 72 #[.val (.ref a1), .val (.int p2), .val (.int (0 : Int32))] [(.ref a1)]))
  refine own_go (fun t_ k => XS.dup X11.here hx rfl (hb hby d3_72) rfl rfl k) ?_
  show WP p e below _ (T11.setTop (mkF m 73 #[.val (.ref a1), .val (.int p2), .val (.int (0 : Int32))] [(.ref a1), (.ref a1)]))
  obtain ⟨T12, X12, e12, st12⟩ := getF X11 hx hZ hown (host := "") (Or.inl (hw _ (List.mem_of_getElem? (i := 18) rfl))) Via.refl e11 (F_s.other W11 (Or.inl ne_b)) (g := (mkF m 73 #[.val (.ref a1), .val (.int p2), .val (.int (0 : Int32))] [(.ref a1), (.ref a1)])) rfl rfl (hb hby d3_73)
  refine own_go st12 ?_
  show WP p e below _ (T12.setTop (mkF m 76 #[.val (.ref a1), .val (.int p2), .val (.int (0 : Int32))] [(.long (3 : Int64)), (.ref a1)]))
  refine own_go (fun t_ k => XS.lconst X12.here hx rfl (hb hby d3_76) k) ?_
  show WP p e below _ (T12.setTop (mkF m 77 #[.val (.ref a1), .val (.int p2), .val (.int (0 : Int32))] [(.long (1 : Int64)), (.long (3 : Int64)), (.ref a1)]))
  refine own_go (fun t_ k => XS.ladd X12.here hx rfl (hb hby d3_77) rfl k) ?_
  show WP p e below _ (T12.setTop (mkF m 78 #[.val (.ref a1), .val (.int p2), .val (.int (0 : Int32))] [(.long (4 : Int64)), (.ref a1)]))
  obtain ⟨T13, h13, X13, e13, W13, st13⟩ := putF X12 hx hZ hown (host := "") (Or.inl (hw _ (List.mem_of_getElem? (i := 18) rfl))) Via.refl e12 (F_s.other W11 (Or.inl ne_b)) (E_a.wr W11) (Or.inl (hw _ (List.mem_of_getElem? (i := 19) rfl))) (hw _ (List.mem_of_getElem? (i := 1) rfl)) (ty := .long) (by decide) rfl rfl (g := (mkF m 78 #[.val (.ref a1), .val (.int p2), .val (.int (0 : Int32))] [(.long (4 : Int64)), (.ref a1)])) rfl rfl (hb hby d3_78)
  refine own_go st13 ?_
  have Fw13 := (F_s.other W11 (Or.inl ne_b)).same W13
  have N13 := Fr.snoc X13 N11 g_a
  have K13 : Keep h0 h13 [a1, b] := K11.wr W13 (Or.inl (List.mem_of_getElem? (i := 0) rfl))
  show WP p e below _ (T13.setTop (mkF m 81 #[.val (.ref a1), .val (.int p2), .val (.int (0 : Int32))] []))
  exact own_ret0 X13 hx Bd.notSynchronized Bd.returns (hb hby d3_81) (by rw [e13]; exact ⟨rfl, N13, K13, ((E_a.wr W11).wr W13), ((F_b.other W11 (Or.inl ne_b)).other W13 (Or.inr (slot_ne (Or.inl (hw _ (List.mem_of_getElem? (i := 12) rfl))) (Or.inl (hw _ (List.mem_of_getElem? (i := 19) rfl))) (by decide) (t := (.array (.array .byte))) (t' := .long) (by decide) (by decide)))), Fw13, ((V_t.other W11 ne_tb).other W13 (Ne.symm ne_t)), (own_put xs _ _ hl ▸ (V11.other W13 (Ne.symm ne_b))), ne_t, ne_b, ne_tb⟩) (by decide) (by decide)
theorem d4_0 : decode prog_3_method_4_code 0 = .ok (.aload_n 0, 1) := by decide +kernel
theorem d4_1 : decode prog_3_method_4_code 1 = .ok (.getfield 11, 3) := by decide +kernel
theorem d4_4 : decode prog_3_method_4_code 4 = .ok (.lload_n 1, 1) := by decide +kernel
theorem d4_5 : decode prog_3_method_4_code 5 = .ok (.bipush 16, 2) := by decide +kernel
theorem d4_7 : decode prog_3_method_4_code 7 = .ok (.lushr, 1) := by decide +kernel
theorem d4_8 : decode prog_3_method_4_code 8 = .ok (.l2i, 1) := by decide +kernel
theorem d4_9 : decode prog_3_method_4_code 9 = .ok (.aaload, 1) := by decide +kernel
theorem d4_10 : decode prog_3_method_4_code 10 = .ok (.lload_n 1, 1) := by decide +kernel
theorem d4_11 : decode prog_3_method_4_code 11 = .ok (.ldc2_w 27, 3) := by decide +kernel
theorem d4_14 : decode prog_3_method_4_code 14 = .ok (.land, 1) := by decide +kernel
theorem d4_15 : decode prog_3_method_4_code 15 = .ok (.l2i, 1) := by decide +kernel
theorem d4_16 : decode prog_3_method_4_code 16 = .ok (.baload, 1) := by decide +kernel
theorem d4_17 : decode prog_3_method_4_code 17 = .ok (.ireturn, 1) := by decide +kernel
theorem ef_rm_at0 (m : MethodId) (x0 : Addr) (x1 : Int64) : entryFrame m #[(.ref x0), (.long x1)] 3 = mkF m 0 #[.val (.ref x0), .val (.long x1), .second] [] := by first | (simp [entryFrame, mkF, argsToLocals, Value.category]; done) | rfl
set_option maxRecDepth 65536 in
set_option maxHeartbeats 40000000 in
theorem rm_at0 (l : Launch) (Z : State) (a0 : Array Value) (hw : ∀ d ∈ tables_1, d.before a0 Z = true) (ws : List Jvm.Cond) (a1 : Addr) (q2 : Int64) (t : Addr) (k : ClassId) (b : Addr) (kb : ClassId) (n : Int64) (xs : List Int32) (h0 : Heap) (n0 : Nat) (G : BB Z h0 a1 t k b kb n xs) (hq : q2 = (0 : Int64)) :
    MetFree l (⟨"com/example/vestry/vestry/ByteBlocks", "at", "(J)B"⟩ : MethodName) (head1 (Jvm.Cond.code (⟨"com/example/vestry/vestry/ByteBlocks", "at", "(J)B"⟩ : MethodName) prog_3_method_4_code 3 (some .byte) :: ws) ({ frames := 0, cells := 0, slots := 0, locals := 0 } : Room)) (fun a U => a = #[(.ref a1), (.long q2)] ∧ Z.Warmed39 U.vm ∧ U.heap = h0) (fun _ _ _ _ _ => True) (fun _ U o U' => ∃ v L, o = .returned v ∧ (PQ h0 n0 (.int ((xs.getD 0 0).toInt8.toInt32))) v U'.heap L ∧ FrameEnd U o U' L ({ frames := 0, cells := 0, slots := 0, locals := 0 } : Room).cells ({ frames := 0, cells := 0, slots := 0, locals := 0 } : Room).slots) := by
  refine MetFree.of_bodySF (plainFor_of_name pn_0) hisR ?_
  intro p e s m args below meth c s₁ Bd hml0 hP hK
  obtain ⟨rfl, hZ, hh⟩ := hP
  have hx := Bd.exec
  have hby := Bd.bytes
  have hml : c.maxLocals = 3 := hml0
  have hown : s.vm.findClass "com/example/vestry/vestry/ByteBlocks" = some m.cls := findClass_of_methodNamed Bd.named
  have hnm := (name_of_methodNamed Bd.named Bd.method).1
  have X0 : Stand p l e ({ frames := 0, cells := 0, slots := 0, locals := 0 } : Room) s m #[(.ref a1), (.long q2)] below meth c s₁ [] 0 0 := Stand.of_body Bd
  have e0 : s₁.heap = h0 := by rw [← hh, Bd.state]; rfl
  have N0 := Fr.nil n0
  show WP p e below (GG (PQ h0 n0 (.int ((xs.getD 0 0).toInt8.toInt32))) s ({ frames := 0, cells := 0, slots := 0, locals := 0 } : Room).cells ({ frames := 0, cells := 0, slots := 0, locals := 0 } : Room).slots) (s₁.setTop (entryFrame m #[(.ref a1), (.long q2)] 3))
  rw [ef_rm_at0 m a1 q2]
  obtain ⟨E_a, F_b, F_s, V_t, V_b, ne_t, ne_b, ne_tb⟩ := G
  subst hq
  show WP p e below _ (s₁.setTop (mkF m 0 #[.val (.ref a1), .val (.long (0 : Int64)), .second] []))
  refine own_go (fun t_ k => XS.aloadN X0.here hx rfl (hb hby d4_0) rfl rfl k) ?_
  show WP p e below _ (s₁.setTop (mkF m 1 #[.val (.ref a1), .val (.long (0 : Int64)), .second] [(.ref a1)]))
  obtain ⟨T1, X1, e1, st1⟩ := getF X0 hx hZ hown (host := "") (Or.inl (hw _ (List.mem_of_getElem? (i := 11) rfl))) Via.refl e0 F_b (g := (mkF m 1 #[.val (.ref a1), .val (.long (0 : Int64)), .second] [(.ref a1)])) rfl rfl (hb hby d4_1)
  refine own_go st1 ?_
  show WP p e below _ (T1.setTop (mkF m 4 #[.val (.ref a1), .val (.long (0 : Int64)), .second] [(.ref t)]))
  refine own_go (fun t_ k => XS.lloadN X1.here hx rfl (hb hby d4_4) rfl k) ?_
  show WP p e below _ (T1.setTop (mkF m 5 #[.val (.ref a1), .val (.long (0 : Int64)), .second] [(.long (0 : Int64)), (.ref t)]))
  refine own_go (fun t_ k => XS.bipush X1.here hx rfl (hb hby d4_5) k) ?_
  show WP p e below _ (T1.setTop (mkF m 7 #[.val (.ref a1), .val (.long (0 : Int64)), .second] [(.int (16 : Int32)), (.long (0 : Int64)), (.ref t)]))
  refine own_go (fun t_ k => XS.lushr X1.here hx rfl (hb hby d4_7) rfl k) ?_
  show WP p e below _ (T1.setTop (mkF m 8 #[.val (.ref a1), .val (.long (0 : Int64)), .second] [(.long (0 : Int64)), (.ref t)]))
  refine own_go (fun t_ k => XS.l2i X1.here hx rfl (hb hby d4_8) rfl k) ?_
  show WP p e below _ (T1.setTop (mkF m 9 #[.val (.ref a1), .val (.long (0 : Int64)), .second] [(.int (0 : Int32)), (.ref t)]))
  obtain ⟨cl2, Ar2, -, S2, M2, H2, -⟩ := id (V_t)
  have hin2 : ¬ ((0 : Int32) < 0 ∨ cl2.slots.size ≤ ((0 : Int32)).toNatClampNeg) := inb_of S2 (⟨by decide, by decide⟩)
  refine own_go (fun t_ k => X1.aaload hx (j := (0 : Int32)) (v := (.ref b)) (by rw [e1]; exact Ar2.1) (State.isArrayOf_alike hZ.alike Ar2.2.1) rfl Ar2.2.2 hin2 (H2.at hin2 rfl) (g := (mkF m 9 #[.val (.ref a1), .val (.long (0 : Int64)), .second] [(.int (0 : Int32)), (.ref t)])) rfl rfl (hb hby d4_9) _ k) ?_
  show WP p e below _ (T1.setTop (mkF m 10 #[.val (.ref a1), .val (.long (0 : Int64)), .second] [(.ref b)]))
  refine own_go (fun t_ k => XS.lloadN X1.here hx rfl (hb hby d4_10) rfl k) ?_
  show WP p e below _ (T1.setTop (mkF m 11 #[.val (.ref a1), .val (.long (0 : Int64)), .second] [(.long (0 : Int64)), (.ref b)]))
  refine own_go (fun t_ k => X1.ldc2Long hx hown (mvT hZ (hw _ (List.mem_of_getElem? (i := 23) rfl))) (g := (mkF m 11 #[.val (.ref a1), .val (.long (0 : Int64)), .second] [(.long (0 : Int64)), (.ref b)])) rfl (hb hby d4_11) _ k) ?_
  show WP p e below _ (T1.setTop (mkF m 14 #[.val (.ref a1), .val (.long (0 : Int64)), .second] [(.long (65535 : Int64)), (.long (0 : Int64)), (.ref b)]))
  refine own_go (fun t_ k => XS.land X1.here hx rfl (hb hby d4_14) rfl k) ?_
  show WP p e below _ (T1.setTop (mkF m 15 #[.val (.ref a1), .val (.long (0 : Int64)), .second] [(.long (0 : Int64)), (.ref b)]))
  refine own_go (fun t_ k => XS.l2i X1.here hx rfl (hb hby d4_15) rfl k) ?_
  show WP p e below _ (T1.setTop (mkF m 16 #[.val (.ref a1), .val (.long (0 : Int64)), .second] [(.int (0 : Int32)), (.ref b)]))
  obtain ⟨cl3, Ar3, -, S3, M3, H3, -⟩ := id (V_b)
  have hin3 : ¬ ((0 : Int32) < 0 ∨ cl3.slots.size ≤ ((0 : Int32)).toNatClampNeg) := inb_of S3 (⟨by decide, by decide⟩)
  refine own_go (fun t_ k => X1.baloadBytes hx (j := (0 : Int32)) (v := (.int (xs.getD 0 0))) (by rw [e1]; exact Ar3.1) (State.isArrayOf_alike hZ.alike Ar3.2.1) Ar3.2.2 hin3 (H3.at hin3 (own_at xs 0)) (g := (mkF m 16 #[.val (.ref a1), .val (.long (0 : Int64)), .second] [(.int (0 : Int32)), (.ref b)])) rfl rfl (hb hby d4_16) _ k) ?_
  show WP p e below _ (T1.setTop (mkF m 17 #[.val (.ref a1), .val (.long (0 : Int64)), .second] [(.int (xs.getD 0 0))]))
  exact own_retB X1 hx Bd.notSynchronized Bd.returns (hb hby d4_17) (show PQ h0 n0 (.int ((xs.getD 0 0).toInt8.toInt32)) _ _ _ from ⟨rfl, N0, e1⟩) (by decide) (by decide)
theorem ef_rm_at1 (m : MethodId) (x0 : Addr) (x1 : Int64) : entryFrame m #[(.ref x0), (.long x1)] 3 = mkF m 0 #[.val (.ref x0), .val (.long x1), .second] [] := by first | (simp [entryFrame, mkF, argsToLocals, Value.category]; done) | rfl
set_option maxRecDepth 65536 in
set_option maxHeartbeats 40000000 in
theorem rm_at1 (l : Launch) (Z : State) (a0 : Array Value) (hw : ∀ d ∈ tables_1, d.before a0 Z = true) (ws : List Jvm.Cond) (a1 : Addr) (q2 : Int64) (t : Addr) (k : ClassId) (b : Addr) (kb : ClassId) (n : Int64) (xs : List Int32) (h0 : Heap) (n0 : Nat) (G : BB Z h0 a1 t k b kb n xs) (hq : q2 = (1 : Int64)) :
    MetFree l (⟨"com/example/vestry/vestry/ByteBlocks", "at", "(J)B"⟩ : MethodName) (head1 (Jvm.Cond.code (⟨"com/example/vestry/vestry/ByteBlocks", "at", "(J)B"⟩ : MethodName) prog_3_method_4_code 3 (some .byte) :: ws) ({ frames := 0, cells := 0, slots := 0, locals := 0 } : Room)) (fun a U => a = #[(.ref a1), (.long q2)] ∧ Z.Warmed39 U.vm ∧ U.heap = h0) (fun _ _ _ _ _ => True) (fun _ U o U' => ∃ v L, o = .returned v ∧ (PQ h0 n0 (.int ((xs.getD 1 0).toInt8.toInt32))) v U'.heap L ∧ FrameEnd U o U' L ({ frames := 0, cells := 0, slots := 0, locals := 0 } : Room).cells ({ frames := 0, cells := 0, slots := 0, locals := 0 } : Room).slots) := by
  refine MetFree.of_bodySF (plainFor_of_name pn_0) hisR ?_
  intro p e s m args below meth c s₁ Bd hml0 hP hK
  obtain ⟨rfl, hZ, hh⟩ := hP
  have hx := Bd.exec
  have hby := Bd.bytes
  have hml : c.maxLocals = 3 := hml0
  have hown : s.vm.findClass "com/example/vestry/vestry/ByteBlocks" = some m.cls := findClass_of_methodNamed Bd.named
  have hnm := (name_of_methodNamed Bd.named Bd.method).1
  have X0 : Stand p l e ({ frames := 0, cells := 0, slots := 0, locals := 0 } : Room) s m #[(.ref a1), (.long q2)] below meth c s₁ [] 0 0 := Stand.of_body Bd
  have e0 : s₁.heap = h0 := by rw [← hh, Bd.state]; rfl
  have N0 := Fr.nil n0
  show WP p e below (GG (PQ h0 n0 (.int ((xs.getD 1 0).toInt8.toInt32))) s ({ frames := 0, cells := 0, slots := 0, locals := 0 } : Room).cells ({ frames := 0, cells := 0, slots := 0, locals := 0 } : Room).slots) (s₁.setTop (entryFrame m #[(.ref a1), (.long q2)] 3))
  rw [ef_rm_at1 m a1 q2]
  obtain ⟨E_a, F_b, F_s, V_t, V_b, ne_t, ne_b, ne_tb⟩ := G
  subst hq
  show WP p e below _ (s₁.setTop (mkF m 0 #[.val (.ref a1), .val (.long (1 : Int64)), .second] []))
  refine own_go (fun t_ k => XS.aloadN X0.here hx rfl (hb hby d4_0) rfl rfl k) ?_
  show WP p e below _ (s₁.setTop (mkF m 1 #[.val (.ref a1), .val (.long (1 : Int64)), .second] [(.ref a1)]))
  obtain ⟨T1, X1, e1, st1⟩ := getF X0 hx hZ hown (host := "") (Or.inl (hw _ (List.mem_of_getElem? (i := 11) rfl))) Via.refl e0 F_b (g := (mkF m 1 #[.val (.ref a1), .val (.long (1 : Int64)), .second] [(.ref a1)])) rfl rfl (hb hby d4_1)
  refine own_go st1 ?_
  show WP p e below _ (T1.setTop (mkF m 4 #[.val (.ref a1), .val (.long (1 : Int64)), .second] [(.ref t)]))
  refine own_go (fun t_ k => XS.lloadN X1.here hx rfl (hb hby d4_4) rfl k) ?_
  show WP p e below _ (T1.setTop (mkF m 5 #[.val (.ref a1), .val (.long (1 : Int64)), .second] [(.long (1 : Int64)), (.ref t)]))
  refine own_go (fun t_ k => XS.bipush X1.here hx rfl (hb hby d4_5) k) ?_
  show WP p e below _ (T1.setTop (mkF m 7 #[.val (.ref a1), .val (.long (1 : Int64)), .second] [(.int (16 : Int32)), (.long (1 : Int64)), (.ref t)]))
  refine own_go (fun t_ k => XS.lushr X1.here hx rfl (hb hby d4_7) rfl k) ?_
  show WP p e below _ (T1.setTop (mkF m 8 #[.val (.ref a1), .val (.long (1 : Int64)), .second] [(.long (0 : Int64)), (.ref t)]))
  refine own_go (fun t_ k => XS.l2i X1.here hx rfl (hb hby d4_8) rfl k) ?_
  show WP p e below _ (T1.setTop (mkF m 9 #[.val (.ref a1), .val (.long (1 : Int64)), .second] [(.int (0 : Int32)), (.ref t)]))
  obtain ⟨cl2, Ar2, -, S2, M2, H2, -⟩ := id (V_t)
  have hin2 : ¬ ((0 : Int32) < 0 ∨ cl2.slots.size ≤ ((0 : Int32)).toNatClampNeg) := inb_of S2 (⟨by decide, by decide⟩)
  refine own_go (fun t_ k => X1.aaload hx (j := (0 : Int32)) (v := (.ref b)) (by rw [e1]; exact Ar2.1) (State.isArrayOf_alike hZ.alike Ar2.2.1) rfl Ar2.2.2 hin2 (H2.at hin2 rfl) (g := (mkF m 9 #[.val (.ref a1), .val (.long (1 : Int64)), .second] [(.int (0 : Int32)), (.ref t)])) rfl rfl (hb hby d4_9) _ k) ?_
  show WP p e below _ (T1.setTop (mkF m 10 #[.val (.ref a1), .val (.long (1 : Int64)), .second] [(.ref b)]))
  refine own_go (fun t_ k => XS.lloadN X1.here hx rfl (hb hby d4_10) rfl k) ?_
  show WP p e below _ (T1.setTop (mkF m 11 #[.val (.ref a1), .val (.long (1 : Int64)), .second] [(.long (1 : Int64)), (.ref b)]))
  refine own_go (fun t_ k => X1.ldc2Long hx hown (mvT hZ (hw _ (List.mem_of_getElem? (i := 23) rfl))) (g := (mkF m 11 #[.val (.ref a1), .val (.long (1 : Int64)), .second] [(.long (1 : Int64)), (.ref b)])) rfl (hb hby d4_11) _ k) ?_
  show WP p e below _ (T1.setTop (mkF m 14 #[.val (.ref a1), .val (.long (1 : Int64)), .second] [(.long (65535 : Int64)), (.long (1 : Int64)), (.ref b)]))
  refine own_go (fun t_ k => XS.land X1.here hx rfl (hb hby d4_14) rfl k) ?_
  show WP p e below _ (T1.setTop (mkF m 15 #[.val (.ref a1), .val (.long (1 : Int64)), .second] [(.long (1 : Int64)), (.ref b)]))
  refine own_go (fun t_ k => XS.l2i X1.here hx rfl (hb hby d4_15) rfl k) ?_
  show WP p e below _ (T1.setTop (mkF m 16 #[.val (.ref a1), .val (.long (1 : Int64)), .second] [(.int (1 : Int32)), (.ref b)]))
  obtain ⟨cl3, Ar3, -, S3, M3, H3, -⟩ := id (V_b)
  have hin3 : ¬ ((1 : Int32) < 0 ∨ cl3.slots.size ≤ ((1 : Int32)).toNatClampNeg) := inb_of S3 (⟨by decide, by decide⟩)
  refine own_go (fun t_ k => X1.baloadBytes hx (j := (1 : Int32)) (v := (.int (xs.getD 1 0))) (by rw [e1]; exact Ar3.1) (State.isArrayOf_alike hZ.alike Ar3.2.1) Ar3.2.2 hin3 (H3.at hin3 (own_at xs 1)) (g := (mkF m 16 #[.val (.ref a1), .val (.long (1 : Int64)), .second] [(.int (1 : Int32)), (.ref b)])) rfl rfl (hb hby d4_16) _ k) ?_
  show WP p e below _ (T1.setTop (mkF m 17 #[.val (.ref a1), .val (.long (1 : Int64)), .second] [(.int (xs.getD 1 0))]))
  exact own_retB X1 hx Bd.notSynchronized Bd.returns (hb hby d4_17) (show PQ h0 n0 (.int ((xs.getD 1 0).toInt8.toInt32)) _ _ _ from ⟨rfl, N0, e1⟩) (by decide) (by decide)
theorem ef_rm_at2 (m : MethodId) (x0 : Addr) (x1 : Int64) : entryFrame m #[(.ref x0), (.long x1)] 3 = mkF m 0 #[.val (.ref x0), .val (.long x1), .second] [] := by first | (simp [entryFrame, mkF, argsToLocals, Value.category]; done) | rfl
set_option maxRecDepth 65536 in
set_option maxHeartbeats 40000000 in
theorem rm_at2 (l : Launch) (Z : State) (a0 : Array Value) (hw : ∀ d ∈ tables_1, d.before a0 Z = true) (ws : List Jvm.Cond) (a1 : Addr) (q2 : Int64) (t : Addr) (k : ClassId) (b : Addr) (kb : ClassId) (n : Int64) (xs : List Int32) (h0 : Heap) (n0 : Nat) (G : BB Z h0 a1 t k b kb n xs) (hq : q2 = (2 : Int64)) :
    MetFree l (⟨"com/example/vestry/vestry/ByteBlocks", "at", "(J)B"⟩ : MethodName) (head1 (Jvm.Cond.code (⟨"com/example/vestry/vestry/ByteBlocks", "at", "(J)B"⟩ : MethodName) prog_3_method_4_code 3 (some .byte) :: ws) ({ frames := 0, cells := 0, slots := 0, locals := 0 } : Room)) (fun a U => a = #[(.ref a1), (.long q2)] ∧ Z.Warmed39 U.vm ∧ U.heap = h0) (fun _ _ _ _ _ => True) (fun _ U o U' => ∃ v L, o = .returned v ∧ (PQ h0 n0 (.int ((xs.getD 2 0).toInt8.toInt32))) v U'.heap L ∧ FrameEnd U o U' L ({ frames := 0, cells := 0, slots := 0, locals := 0 } : Room).cells ({ frames := 0, cells := 0, slots := 0, locals := 0 } : Room).slots) := by
  refine MetFree.of_bodySF (plainFor_of_name pn_0) hisR ?_
  intro p e s m args below meth c s₁ Bd hml0 hP hK
  obtain ⟨rfl, hZ, hh⟩ := hP
  have hx := Bd.exec
  have hby := Bd.bytes
  have hml : c.maxLocals = 3 := hml0
  have hown : s.vm.findClass "com/example/vestry/vestry/ByteBlocks" = some m.cls := findClass_of_methodNamed Bd.named
  have hnm := (name_of_methodNamed Bd.named Bd.method).1
  have X0 : Stand p l e ({ frames := 0, cells := 0, slots := 0, locals := 0 } : Room) s m #[(.ref a1), (.long q2)] below meth c s₁ [] 0 0 := Stand.of_body Bd
  have e0 : s₁.heap = h0 := by rw [← hh, Bd.state]; rfl
  have N0 := Fr.nil n0
  show WP p e below (GG (PQ h0 n0 (.int ((xs.getD 2 0).toInt8.toInt32))) s ({ frames := 0, cells := 0, slots := 0, locals := 0 } : Room).cells ({ frames := 0, cells := 0, slots := 0, locals := 0 } : Room).slots) (s₁.setTop (entryFrame m #[(.ref a1), (.long q2)] 3))
  rw [ef_rm_at2 m a1 q2]
  obtain ⟨E_a, F_b, F_s, V_t, V_b, ne_t, ne_b, ne_tb⟩ := G
  subst hq
  show WP p e below _ (s₁.setTop (mkF m 0 #[.val (.ref a1), .val (.long (2 : Int64)), .second] []))
  refine own_go (fun t_ k => XS.aloadN X0.here hx rfl (hb hby d4_0) rfl rfl k) ?_
  show WP p e below _ (s₁.setTop (mkF m 1 #[.val (.ref a1), .val (.long (2 : Int64)), .second] [(.ref a1)]))
  obtain ⟨T1, X1, e1, st1⟩ := getF X0 hx hZ hown (host := "") (Or.inl (hw _ (List.mem_of_getElem? (i := 11) rfl))) Via.refl e0 F_b (g := (mkF m 1 #[.val (.ref a1), .val (.long (2 : Int64)), .second] [(.ref a1)])) rfl rfl (hb hby d4_1)
  refine own_go st1 ?_
  show WP p e below _ (T1.setTop (mkF m 4 #[.val (.ref a1), .val (.long (2 : Int64)), .second] [(.ref t)]))
  refine own_go (fun t_ k => XS.lloadN X1.here hx rfl (hb hby d4_4) rfl k) ?_
  show WP p e below _ (T1.setTop (mkF m 5 #[.val (.ref a1), .val (.long (2 : Int64)), .second] [(.long (2 : Int64)), (.ref t)]))
  refine own_go (fun t_ k => XS.bipush X1.here hx rfl (hb hby d4_5) k) ?_
  show WP p e below _ (T1.setTop (mkF m 7 #[.val (.ref a1), .val (.long (2 : Int64)), .second] [(.int (16 : Int32)), (.long (2 : Int64)), (.ref t)]))
  refine own_go (fun t_ k => XS.lushr X1.here hx rfl (hb hby d4_7) rfl k) ?_
  show WP p e below _ (T1.setTop (mkF m 8 #[.val (.ref a1), .val (.long (2 : Int64)), .second] [(.long (0 : Int64)), (.ref t)]))
  refine own_go (fun t_ k => XS.l2i X1.here hx rfl (hb hby d4_8) rfl k) ?_
  show WP p e below _ (T1.setTop (mkF m 9 #[.val (.ref a1), .val (.long (2 : Int64)), .second] [(.int (0 : Int32)), (.ref t)]))
  obtain ⟨cl2, Ar2, -, S2, M2, H2, -⟩ := id (V_t)
  have hin2 : ¬ ((0 : Int32) < 0 ∨ cl2.slots.size ≤ ((0 : Int32)).toNatClampNeg) := inb_of S2 (⟨by decide, by decide⟩)
  refine own_go (fun t_ k => X1.aaload hx (j := (0 : Int32)) (v := (.ref b)) (by rw [e1]; exact Ar2.1) (State.isArrayOf_alike hZ.alike Ar2.2.1) rfl Ar2.2.2 hin2 (H2.at hin2 rfl) (g := (mkF m 9 #[.val (.ref a1), .val (.long (2 : Int64)), .second] [(.int (0 : Int32)), (.ref t)])) rfl rfl (hb hby d4_9) _ k) ?_
  show WP p e below _ (T1.setTop (mkF m 10 #[.val (.ref a1), .val (.long (2 : Int64)), .second] [(.ref b)]))
  refine own_go (fun t_ k => XS.lloadN X1.here hx rfl (hb hby d4_10) rfl k) ?_
  show WP p e below _ (T1.setTop (mkF m 11 #[.val (.ref a1), .val (.long (2 : Int64)), .second] [(.long (2 : Int64)), (.ref b)]))
  refine own_go (fun t_ k => X1.ldc2Long hx hown (mvT hZ (hw _ (List.mem_of_getElem? (i := 23) rfl))) (g := (mkF m 11 #[.val (.ref a1), .val (.long (2 : Int64)), .second] [(.long (2 : Int64)), (.ref b)])) rfl (hb hby d4_11) _ k) ?_
  show WP p e below _ (T1.setTop (mkF m 14 #[.val (.ref a1), .val (.long (2 : Int64)), .second] [(.long (65535 : Int64)), (.long (2 : Int64)), (.ref b)]))
  refine own_go (fun t_ k => XS.land X1.here hx rfl (hb hby d4_14) rfl k) ?_
  show WP p e below _ (T1.setTop (mkF m 15 #[.val (.ref a1), .val (.long (2 : Int64)), .second] [(.long (2 : Int64)), (.ref b)]))
  refine own_go (fun t_ k => XS.l2i X1.here hx rfl (hb hby d4_15) rfl k) ?_
  show WP p e below _ (T1.setTop (mkF m 16 #[.val (.ref a1), .val (.long (2 : Int64)), .second] [(.int (2 : Int32)), (.ref b)]))
  obtain ⟨cl3, Ar3, -, S3, M3, H3, -⟩ := id (V_b)
  have hin3 : ¬ ((2 : Int32) < 0 ∨ cl3.slots.size ≤ ((2 : Int32)).toNatClampNeg) := inb_of S3 (⟨by decide, by decide⟩)
  refine own_go (fun t_ k => X1.baloadBytes hx (j := (2 : Int32)) (v := (.int (xs.getD 2 0))) (by rw [e1]; exact Ar3.1) (State.isArrayOf_alike hZ.alike Ar3.2.1) Ar3.2.2 hin3 (H3.at hin3 (own_at xs 2)) (g := (mkF m 16 #[.val (.ref a1), .val (.long (2 : Int64)), .second] [(.int (2 : Int32)), (.ref b)])) rfl rfl (hb hby d4_16) _ k) ?_
  show WP p e below _ (T1.setTop (mkF m 17 #[.val (.ref a1), .val (.long (2 : Int64)), .second] [(.int (xs.getD 2 0))]))
  exact own_retB X1 hx Bd.notSynchronized Bd.returns (hb hby d4_17) (show PQ h0 n0 (.int ((xs.getD 2 0).toInt8.toInt32)) _ _ _ from ⟨rfl, N0, e1⟩) (by decide) (by decide)
theorem ef_rm_at3 (m : MethodId) (x0 : Addr) (x1 : Int64) : entryFrame m #[(.ref x0), (.long x1)] 3 = mkF m 0 #[.val (.ref x0), .val (.long x1), .second] [] := by first | (simp [entryFrame, mkF, argsToLocals, Value.category]; done) | rfl
set_option maxRecDepth 65536 in
set_option maxHeartbeats 40000000 in
theorem rm_at3 (l : Launch) (Z : State) (a0 : Array Value) (hw : ∀ d ∈ tables_1, d.before a0 Z = true) (ws : List Jvm.Cond) (a1 : Addr) (q2 : Int64) (t : Addr) (k : ClassId) (b : Addr) (kb : ClassId) (n : Int64) (xs : List Int32) (h0 : Heap) (n0 : Nat) (G : BB Z h0 a1 t k b kb n xs) (hq : q2 = (3 : Int64)) :
    MetFree l (⟨"com/example/vestry/vestry/ByteBlocks", "at", "(J)B"⟩ : MethodName) (head1 (Jvm.Cond.code (⟨"com/example/vestry/vestry/ByteBlocks", "at", "(J)B"⟩ : MethodName) prog_3_method_4_code 3 (some .byte) :: ws) ({ frames := 0, cells := 0, slots := 0, locals := 0 } : Room)) (fun a U => a = #[(.ref a1), (.long q2)] ∧ Z.Warmed39 U.vm ∧ U.heap = h0) (fun _ _ _ _ _ => True) (fun _ U o U' => ∃ v L, o = .returned v ∧ (PQ h0 n0 (.int ((xs.getD 3 0).toInt8.toInt32))) v U'.heap L ∧ FrameEnd U o U' L ({ frames := 0, cells := 0, slots := 0, locals := 0 } : Room).cells ({ frames := 0, cells := 0, slots := 0, locals := 0 } : Room).slots) := by
  refine MetFree.of_bodySF (plainFor_of_name pn_0) hisR ?_
  intro p e s m args below meth c s₁ Bd hml0 hP hK
  obtain ⟨rfl, hZ, hh⟩ := hP
  have hx := Bd.exec
  have hby := Bd.bytes
  have hml : c.maxLocals = 3 := hml0
  have hown : s.vm.findClass "com/example/vestry/vestry/ByteBlocks" = some m.cls := findClass_of_methodNamed Bd.named
  have hnm := (name_of_methodNamed Bd.named Bd.method).1
  have X0 : Stand p l e ({ frames := 0, cells := 0, slots := 0, locals := 0 } : Room) s m #[(.ref a1), (.long q2)] below meth c s₁ [] 0 0 := Stand.of_body Bd
  have e0 : s₁.heap = h0 := by rw [← hh, Bd.state]; rfl
  have N0 := Fr.nil n0
  show WP p e below (GG (PQ h0 n0 (.int ((xs.getD 3 0).toInt8.toInt32))) s ({ frames := 0, cells := 0, slots := 0, locals := 0 } : Room).cells ({ frames := 0, cells := 0, slots := 0, locals := 0 } : Room).slots) (s₁.setTop (entryFrame m #[(.ref a1), (.long q2)] 3))
  rw [ef_rm_at3 m a1 q2]
  obtain ⟨E_a, F_b, F_s, V_t, V_b, ne_t, ne_b, ne_tb⟩ := G
  subst hq
  show WP p e below _ (s₁.setTop (mkF m 0 #[.val (.ref a1), .val (.long (3 : Int64)), .second] []))
  refine own_go (fun t_ k => XS.aloadN X0.here hx rfl (hb hby d4_0) rfl rfl k) ?_
  show WP p e below _ (s₁.setTop (mkF m 1 #[.val (.ref a1), .val (.long (3 : Int64)), .second] [(.ref a1)]))
  obtain ⟨T1, X1, e1, st1⟩ := getF X0 hx hZ hown (host := "") (Or.inl (hw _ (List.mem_of_getElem? (i := 11) rfl))) Via.refl e0 F_b (g := (mkF m 1 #[.val (.ref a1), .val (.long (3 : Int64)), .second] [(.ref a1)])) rfl rfl (hb hby d4_1)
  refine own_go st1 ?_
  show WP p e below _ (T1.setTop (mkF m 4 #[.val (.ref a1), .val (.long (3 : Int64)), .second] [(.ref t)]))
  refine own_go (fun t_ k => XS.lloadN X1.here hx rfl (hb hby d4_4) rfl k) ?_
  show WP p e below _ (T1.setTop (mkF m 5 #[.val (.ref a1), .val (.long (3 : Int64)), .second] [(.long (3 : Int64)), (.ref t)]))
  refine own_go (fun t_ k => XS.bipush X1.here hx rfl (hb hby d4_5) k) ?_
  show WP p e below _ (T1.setTop (mkF m 7 #[.val (.ref a1), .val (.long (3 : Int64)), .second] [(.int (16 : Int32)), (.long (3 : Int64)), (.ref t)]))
  refine own_go (fun t_ k => XS.lushr X1.here hx rfl (hb hby d4_7) rfl k) ?_
  show WP p e below _ (T1.setTop (mkF m 8 #[.val (.ref a1), .val (.long (3 : Int64)), .second] [(.long (0 : Int64)), (.ref t)]))
  refine own_go (fun t_ k => XS.l2i X1.here hx rfl (hb hby d4_8) rfl k) ?_
  show WP p e below _ (T1.setTop (mkF m 9 #[.val (.ref a1), .val (.long (3 : Int64)), .second] [(.int (0 : Int32)), (.ref t)]))
  obtain ⟨cl2, Ar2, -, S2, M2, H2, -⟩ := id (V_t)
  have hin2 : ¬ ((0 : Int32) < 0 ∨ cl2.slots.size ≤ ((0 : Int32)).toNatClampNeg) := inb_of S2 (⟨by decide, by decide⟩)
  refine own_go (fun t_ k => X1.aaload hx (j := (0 : Int32)) (v := (.ref b)) (by rw [e1]; exact Ar2.1) (State.isArrayOf_alike hZ.alike Ar2.2.1) rfl Ar2.2.2 hin2 (H2.at hin2 rfl) (g := (mkF m 9 #[.val (.ref a1), .val (.long (3 : Int64)), .second] [(.int (0 : Int32)), (.ref t)])) rfl rfl (hb hby d4_9) _ k) ?_
  show WP p e below _ (T1.setTop (mkF m 10 #[.val (.ref a1), .val (.long (3 : Int64)), .second] [(.ref b)]))
  refine own_go (fun t_ k => XS.lloadN X1.here hx rfl (hb hby d4_10) rfl k) ?_
  show WP p e below _ (T1.setTop (mkF m 11 #[.val (.ref a1), .val (.long (3 : Int64)), .second] [(.long (3 : Int64)), (.ref b)]))
  refine own_go (fun t_ k => X1.ldc2Long hx hown (mvT hZ (hw _ (List.mem_of_getElem? (i := 23) rfl))) (g := (mkF m 11 #[.val (.ref a1), .val (.long (3 : Int64)), .second] [(.long (3 : Int64)), (.ref b)])) rfl (hb hby d4_11) _ k) ?_
  show WP p e below _ (T1.setTop (mkF m 14 #[.val (.ref a1), .val (.long (3 : Int64)), .second] [(.long (65535 : Int64)), (.long (3 : Int64)), (.ref b)]))
  refine own_go (fun t_ k => XS.land X1.here hx rfl (hb hby d4_14) rfl k) ?_
  show WP p e below _ (T1.setTop (mkF m 15 #[.val (.ref a1), .val (.long (3 : Int64)), .second] [(.long (3 : Int64)), (.ref b)]))
  refine own_go (fun t_ k => XS.l2i X1.here hx rfl (hb hby d4_15) rfl k) ?_
  show WP p e below _ (T1.setTop (mkF m 16 #[.val (.ref a1), .val (.long (3 : Int64)), .second] [(.int (3 : Int32)), (.ref b)]))
  obtain ⟨cl3, Ar3, -, S3, M3, H3, -⟩ := id (V_b)
  have hin3 : ¬ ((3 : Int32) < 0 ∨ cl3.slots.size ≤ ((3 : Int32)).toNatClampNeg) := inb_of S3 (⟨by decide, by decide⟩)
  refine own_go (fun t_ k => X1.baloadBytes hx (j := (3 : Int32)) (v := (.int (xs.getD 3 0))) (by rw [e1]; exact Ar3.1) (State.isArrayOf_alike hZ.alike Ar3.2.1) Ar3.2.2 hin3 (H3.at hin3 (own_at xs 3)) (g := (mkF m 16 #[.val (.ref a1), .val (.long (3 : Int64)), .second] [(.int (3 : Int32)), (.ref b)])) rfl rfl (hb hby d4_16) _ k) ?_
  show WP p e below _ (T1.setTop (mkF m 17 #[.val (.ref a1), .val (.long (3 : Int64)), .second] [(.int (xs.getD 3 0))]))
  exact own_retB X1 hx Bd.notSynchronized Bd.returns (hb hby d4_17) (show PQ h0 n0 (.int ((xs.getD 3 0).toInt8.toInt32)) _ _ _ from ⟨rfl, N0, e1⟩) (by decide) (by decide)
theorem pd_0 : parseMethodDescriptor "()V" = some ⟨[], none⟩ := by decide +kernel
theorem pd_1 : parseMethodDescriptor "(B)V" = some ⟨[.byte], none⟩ := by decide +kernel
theorem pd_2 : parseMethodDescriptor "(J)B" = some ⟨[.long], some .byte⟩ := by decide +kernel
theorem own_law_1 {p1 : Int32} {p2 : Int32} {p3 : Int32} {p4 : Int32} {p5 : Int32} {vi3 : Int32} {vi4 : Int32} {vi5 : Int32} {vi6 : Int32} {vi11 : Int32} {z13_S0 : Int32} {z19_S0 : Int32}
    (he1 : ((1 : Int32) + (p5 &&& (3 : Int32))) = (1 : Int32))
    (he3 : (p1.toInt8.toInt32) = vi3)
    (he4 : (p2.toInt8.toInt32) = vi4)
    (he5 : (p3.toInt8.toInt32) = vi5)
    (he6 : (p4.toInt8.toInt32) = vi6)
    (he11 : ((vi3.toInt8.toInt32).toInt8.toInt32) = vi11)
    (hz13_S0 : z13_S0 = (if vi11 = vi3 then (1 : Int32) else (0 : Int32)))
    (hz19_S0 : z19_S0 = (if z13_S0 = (0 : Int32) then (0 : Int32) else (if ((vi3.toInt8.toInt32).toInt8.toInt32) = vi3 then (1 : Int32) else (0 : Int32))))  : z19_S0 = 1 := by
  have bvi3 : vi3.toInt8.toInt32 = vi3 := by rw [← he3]; exact own_b8 _
  have bvi4 : vi4.toInt8.toInt32 = vi4 := by rw [← he4]; exact own_b8 _
  have bvi5 : vi5.toInt8.toInt32 = vi5 := by rw [← he5]; exact own_b8 _
  have bvi6 : vi6.toInt8.toInt32 = vi6 := by rw [← he6]; exact own_b8 _
  simp only [bvi3, bvi4, bvi5, bvi6, if_true] at *
  simp_all
theorem own_law_2 {p1 : Int32} {p2 : Int32} {p3 : Int32} {p4 : Int32} {p5 : Int32} {vi26 : Int32} {vi27 : Int32} {vi28 : Int32} {vi29 : Int32} {vi34 : Int32} {z36_S0 : Int32} {z43_S0 : Int32} {z47_S0 : Int32}
    (he1 : ((1 : Int32) + (p5 &&& (3 : Int32))) = (2 : Int32))
    (he26 : (p1.toInt8.toInt32) = vi26)
    (he27 : (p2.toInt8.toInt32) = vi27)
    (he28 : (p3.toInt8.toInt32) = vi28)
    (he29 : (p4.toInt8.toInt32) = vi29)
    (he34 : ((vi26.toInt8.toInt32).toInt8.toInt32) = vi34)
    (hz36_S0 : z36_S0 = (if vi34 = vi26 then (1 : Int32) else (0 : Int32)))
    (hz43_S0 : z43_S0 = (if z36_S0 = (0 : Int32) then (0 : Int32) else (if ((vi26.toInt8.toInt32).toInt8.toInt32) = vi26 then (1 : Int32) else (0 : Int32))))
    (hz47_S0 : z47_S0 = (if z43_S0 = (0 : Int32) then (0 : Int32) else (if ((vi27.toInt8.toInt32).toInt8.toInt32) = vi27 then (1 : Int32) else (0 : Int32))))  : z47_S0 = 1 := by
  have bvi26 : vi26.toInt8.toInt32 = vi26 := by rw [← he26]; exact own_b8 _
  have bvi27 : vi27.toInt8.toInt32 = vi27 := by rw [← he27]; exact own_b8 _
  have bvi28 : vi28.toInt8.toInt32 = vi28 := by rw [← he28]; exact own_b8 _
  have bvi29 : vi29.toInt8.toInt32 = vi29 := by rw [← he29]; exact own_b8 _
  simp only [bvi26, bvi27, bvi28, bvi29, if_true] at *
  simp_all
theorem own_law_3 {p1 : Int32} {p2 : Int32} {p3 : Int32} {p4 : Int32} {p5 : Int32} {vi55 : Int32} {vi56 : Int32} {vi57 : Int32} {vi58 : Int32} {vi63 : Int32} {z65_S0 : Int32} {z73_S0 : Int32} {z77_S0 : Int32} {z81_S0 : Int32}
    (he1 : ((1 : Int32) + (p5 &&& (3 : Int32))) = (3 : Int32))
    (he55 : (p1.toInt8.toInt32) = vi55)
    (he56 : (p2.toInt8.toInt32) = vi56)
    (he57 : (p3.toInt8.toInt32) = vi57)
    (he58 : (p4.toInt8.toInt32) = vi58)
    (he63 : ((vi55.toInt8.toInt32).toInt8.toInt32) = vi63)
    (hz65_S0 : z65_S0 = (if vi63 = vi55 then (1 : Int32) else (0 : Int32)))
    (hz73_S0 : z73_S0 = (if z65_S0 = (0 : Int32) then (0 : Int32) else (if ((vi55.toInt8.toInt32).toInt8.toInt32) = vi55 then (1 : Int32) else (0 : Int32))))
    (hz77_S0 : z77_S0 = (if z73_S0 = (0 : Int32) then (0 : Int32) else (if ((vi56.toInt8.toInt32).toInt8.toInt32) = vi56 then (1 : Int32) else (0 : Int32))))
    (hz81_S0 : z81_S0 = (if z77_S0 = (0 : Int32) then (0 : Int32) else (if ((vi57.toInt8.toInt32).toInt8.toInt32) = vi57 then (1 : Int32) else (0 : Int32))))  : z81_S0 = 1 := by
  have bvi55 : vi55.toInt8.toInt32 = vi55 := by rw [← he55]; exact own_b8 _
  have bvi56 : vi56.toInt8.toInt32 = vi56 := by rw [← he56]; exact own_b8 _
  have bvi57 : vi57.toInt8.toInt32 = vi57 := by rw [← he57]; exact own_b8 _
  have bvi58 : vi58.toInt8.toInt32 = vi58 := by rw [← he58]; exact own_b8 _
  simp only [bvi55, bvi56, bvi57, bvi58, if_true] at *
  simp_all
theorem own_law_4 {p1 : Int32} {p2 : Int32} {p3 : Int32} {p4 : Int32} {p5 : Int32} {vi90 : Int32} {vi91 : Int32} {vi92 : Int32} {vi93 : Int32} {vi98 : Int32} {z100_S0 : Int32} {z109_S0 : Int32} {z113_S0 : Int32} {z117_S0 : Int32} {z121_S0 : Int32}
    (he1 : ((1 : Int32) + (p5 &&& (3 : Int32))) = (4 : Int32))
    (he90 : (p1.toInt8.toInt32) = vi90)
    (he91 : (p2.toInt8.toInt32) = vi91)
    (he92 : (p3.toInt8.toInt32) = vi92)
    (he93 : (p4.toInt8.toInt32) = vi93)
    (he98 : ((vi90.toInt8.toInt32).toInt8.toInt32) = vi98)
    (hz100_S0 : z100_S0 = (if vi98 = vi90 then (1 : Int32) else (0 : Int32)))
    (hz109_S0 : z109_S0 = (if z100_S0 = (0 : Int32) then (0 : Int32) else (if ((vi90.toInt8.toInt32).toInt8.toInt32) = vi90 then (1 : Int32) else (0 : Int32))))
    (hz113_S0 : z113_S0 = (if z109_S0 = (0 : Int32) then (0 : Int32) else (if ((vi91.toInt8.toInt32).toInt8.toInt32) = vi91 then (1 : Int32) else (0 : Int32))))
    (hz117_S0 : z117_S0 = (if z113_S0 = (0 : Int32) then (0 : Int32) else (if ((vi92.toInt8.toInt32).toInt8.toInt32) = vi92 then (1 : Int32) else (0 : Int32))))
    (hz121_S0 : z121_S0 = (if z117_S0 = (0 : Int32) then (0 : Int32) else (if ((vi93.toInt8.toInt32).toInt8.toInt32) = vi93 then (1 : Int32) else (0 : Int32))))  : z121_S0 = 1 := by
  have bvi90 : vi90.toInt8.toInt32 = vi90 := by rw [← he90]; exact own_b8 _
  have bvi91 : vi91.toInt8.toInt32 = vi91 := by rw [← he91]; exact own_b8 _
  have bvi92 : vi92.toInt8.toInt32 = vi92 := by rw [← he92]; exact own_b8 _
  have bvi93 : vi93.toInt8.toInt32 = vi93 := by rw [← he93]; exact own_b8 _
  simp only [bvi90, bvi91, bvi92, bvi93, if_true] at *
  simp_all
theorem pn_1 : plainName "com/example/vestry/vestry/ByteBlocksAtPinLaw" = true := by first | (simp [plainName, overriddenIn]; done) | decide +kernel
theorem ef_rm0 (m : MethodId) (x0 : Int32) (x1 : Int32) (x2 : Int32) (x3 : Int32) (x4 : Int32) : entryFrame m #[(.int x0), (.int x1), (.int x2), (.int x3), (.int x4)] maxLocals = mkF m 0 #[.val (.int x0), .val (.int x1), .val (.int x2), .val (.int x3), .val (.int x4), .unset, .unset, .unset, .unset, .unset, .unset, .unset] [] := by first | (simp [entryFrame, mkF, argsToLocals, Value.category, maxLocals]; done) | rfl
set_option maxRecDepth 65536 in
set_option maxHeartbeats 40000000 in
theorem rm0 (l : Launch) (Z : State) (a0 : Array Value) (hw : ∀ d ∈ tables_1, d.before a0 Z = true) (ws : List Jvm.Cond) (p1 : Int32) (p2 : Int32) (p3 : Int32) (p4 : Int32) (p5 : Int32) (h0 : Heap) (n0 : Nat) (Z0 : n0 ≤ h0.size) :
    MetFree l x (head1 (Jvm.Cond.code x code maxLocals ret :: ws) room_1) (fun a U => a = #[(.int p1), (.int p2), (.int p3), (.int p4), (.int p5)] ∧ Z.Warmed39 U.vm ∧ U.heap = h0) (fun _ _ _ _ _ => True) (fun _ U o U' => ∃ v L, o = .returned v ∧ (Q0 n0) v U'.heap L ∧ FrameEnd U o U' L room_1.cells room_1.slots) := by
  refine MetFree.of_bodySF (plainFor_of_name pn_1) hisR ?_
  intro p e s m args below meth c s₁ Bd hml0 hP hK
  obtain ⟨rfl, hZ, hh⟩ := hP
  have hx := Bd.exec
  have hby := Bd.bytes
  have hml : c.maxLocals = 12 := hml0
  have hown : s.vm.findClass "com/example/vestry/vestry/ByteBlocksAtPinLaw" = some m.cls := findClass_of_methodNamed Bd.named
  have hnm := (name_of_methodNamed Bd.named Bd.method).1
  have X0 : Stand p l e room_1 s m #[(.int p1), (.int p2), (.int p3), (.int p4), (.int p5)] below meth c s₁ [] 0 0 := Stand.of_body Bd
  have e0 : s₁.heap = h0 := by rw [← hh, Bd.state]; rfl
  have N0 := Fr.nil n0
  show WP p e below (GG (Q0 n0) s room_1.cells room_1.slots) (s₁.setTop (entryFrame m #[(.int p1), (.int p2), (.int p3), (.int p4), (.int p5)] maxLocals))
  rw [ef_rm0 m p1 p2 p3 p4 p5]
  show WP p e below _ (s₁.setTop (mkF m 0 #[.val (.int p1), .val (.int p2), .val (.int p3), .val (.int p4), .val (.int p5), .unset, .unset, .unset, .unset, .unset, .unset, .unset] []))
  refine own_go (fun t_ k => XS.iconst X0.here hx rfl (hb hby at_0) k) ?_
  show WP p e below _ (s₁.setTop (mkF m 1 #[.val (.int p1), .val (.int p2), .val (.int p3), .val (.int p4), .val (.int p5), .unset, .unset, .unset, .unset, .unset, .unset, .unset] [(.int (1 : Int32))]))
  refine own_go (fun t_ k => XS.iload X0.here hx rfl (hb hby at_1) rfl k) ?_
  show WP p e below _ (s₁.setTop (mkF m 3 #[.val (.int p1), .val (.int p2), .val (.int p3), .val (.int p4), .val (.int p5), .unset, .unset, .unset, .unset, .unset, .unset, .unset] [(.int p5), (.int (1 : Int32))]))
  refine own_go (fun t_ k => XS.iconst X0.here hx rfl (hb hby at_3) k) ?_
  show WP p e below _ (s₁.setTop (mkF m 4 #[.val (.int p1), .val (.int p2), .val (.int p3), .val (.int p4), .val (.int p5), .unset, .unset, .unset, .unset, .unset, .unset, .unset] [(.int (3 : Int32)), (.int p5), (.int (1 : Int32))]))
  refine own_go (fun t_ k => XS.iand X0.here hx rfl (hb hby at_4) rfl k) ?_
  show WP p e below _ (s₁.setTop (mkF m 5 #[.val (.int p1), .val (.int p2), .val (.int p3), .val (.int p4), .val (.int p5), .unset, .unset, .unset, .unset, .unset, .unset, .unset] [(.int (p5 &&& (3 : Int32))), (.int (1 : Int32))]))
  refine own_go (fun t_ k => XS.iadd X0.here hx rfl (hb hby at_5) rfl k) ?_
  show WP p e below _ (s₁.setTop (mkF m 6 #[.val (.int p1), .val (.int p2), .val (.int p3), .val (.int p4), .val (.int p5), .unset, .unset, .unset, .unset, .unset, .unset, .unset] [(.int ((1 : Int32) + (p5 &&& (3 : Int32))))]))
  refine own_go (fun t_ k => XS.istore X0.here hx rfl (hb hby at_6) rfl (l' := #[.val (.int p1), .val (.int p2), .val (.int p3), .val (.int p4), .val (.int p5), .val (.int ((1 : Int32) + (p5 &&& (3 : Int32)))), .unset, .unset, .unset, .unset, .unset, .unset]) rfl k) ?_
  show WP p e below _ (s₁.setTop (mkF m 8 #[.val (.int p1), .val (.int p2), .val (.int p3), .val (.int p4), .val (.int p5), .val (.int ((1 : Int32) + (p5 &&& (3 : Int32)))), .unset, .unset, .unset, .unset, .unset, .unset] []))
  generalize he1 : ((1 : Int32) + (p5 &&& (3 : Int32))) = vi1
  rcases own_and3 he1 with hs2 | hs2 | hs2 | hs2
  · subst hs2
    show WP p e below _ (s₁.setTop (mkF m 8 #[.val (.int p1), .val (.int p2), .val (.int p3), .val (.int p4), .val (.int p5), .val (.int (1 : Int32)), .unset, .unset, .unset, .unset, .unset, .unset] []))
    refine own_go (fun t_ k => XS.iloadN X0.here hx rfl (hb hby at_8) rfl k) ?_
    show WP p e below _ (s₁.setTop (mkF m 9 #[.val (.int p1), .val (.int p2), .val (.int p3), .val (.int p4), .val (.int p5), .val (.int (1 : Int32)), .unset, .unset, .unset, .unset, .unset, .unset] [(.int p1)]))
    refine own_go (fun t_ k => XS.i2b X0.here hx rfl (hb hby at_9) rfl k) ?_
    show WP p e below _ (s₁.setTop (mkF m 10 #[.val (.int p1), .val (.int p2), .val (.int p3), .val (.int p4), .val (.int p5), .val (.int (1 : Int32)), .unset, .unset, .unset, .unset, .unset, .unset] [(.int (p1.toInt8.toInt32))]))
    refine own_go (fun t_ k => XS.istore X0.here hx rfl (hb hby at_10) rfl (l' := #[.val (.int p1), .val (.int p2), .val (.int p3), .val (.int p4), .val (.int p5), .val (.int (1 : Int32)), .val (.int (p1.toInt8.toInt32)), .unset, .unset, .unset, .unset, .unset]) rfl k) ?_
    show WP p e below _ (s₁.setTop (mkF m 12 #[.val (.int p1), .val (.int p2), .val (.int p3), .val (.int p4), .val (.int p5), .val (.int (1 : Int32)), .val (.int (p1.toInt8.toInt32)), .unset, .unset, .unset, .unset, .unset] []))
    generalize he3 : (p1.toInt8.toInt32) = vi3
    show WP p e below _ (s₁.setTop (mkF m 12 #[.val (.int p1), .val (.int p2), .val (.int p3), .val (.int p4), .val (.int p5), .val (.int (1 : Int32)), .val (.int vi3), .unset, .unset, .unset, .unset, .unset] []))
    refine own_go (fun t_ k => XS.iloadN X0.here hx rfl (hb hby at_12) rfl k) ?_
    show WP p e below _ (s₁.setTop (mkF m 13 #[.val (.int p1), .val (.int p2), .val (.int p3), .val (.int p4), .val (.int p5), .val (.int (1 : Int32)), .val (.int vi3), .unset, .unset, .unset, .unset, .unset] [(.int p2)]))
    refine own_go (fun t_ k => XS.i2b X0.here hx rfl (hb hby at_13) rfl k) ?_
    show WP p e below _ (s₁.setTop (mkF m 14 #[.val (.int p1), .val (.int p2), .val (.int p3), .val (.int p4), .val (.int p5), .val (.int (1 : Int32)), .val (.int vi3), .unset, .unset, .unset, .unset, .unset] [(.int (p2.toInt8.toInt32))]))
    refine own_go (fun t_ k => XS.istore X0.here hx rfl (hb hby at_14) rfl (l' := #[.val (.int p1), .val (.int p2), .val (.int p3), .val (.int p4), .val (.int p5), .val (.int (1 : Int32)), .val (.int vi3), .val (.int (p2.toInt8.toInt32)), .unset, .unset, .unset, .unset]) rfl k) ?_
    show WP p e below _ (s₁.setTop (mkF m 16 #[.val (.int p1), .val (.int p2), .val (.int p3), .val (.int p4), .val (.int p5), .val (.int (1 : Int32)), .val (.int vi3), .val (.int (p2.toInt8.toInt32)), .unset, .unset, .unset, .unset] []))
    generalize he4 : (p2.toInt8.toInt32) = vi4
    show WP p e below _ (s₁.setTop (mkF m 16 #[.val (.int p1), .val (.int p2), .val (.int p3), .val (.int p4), .val (.int p5), .val (.int (1 : Int32)), .val (.int vi3), .val (.int vi4), .unset, .unset, .unset, .unset] []))
    refine own_go (fun t_ k => XS.iloadN X0.here hx rfl (hb hby at_16) rfl k) ?_
    show WP p e below _ (s₁.setTop (mkF m 17 #[.val (.int p1), .val (.int p2), .val (.int p3), .val (.int p4), .val (.int p5), .val (.int (1 : Int32)), .val (.int vi3), .val (.int vi4), .unset, .unset, .unset, .unset] [(.int p3)]))
    refine own_go (fun t_ k => XS.i2b X0.here hx rfl (hb hby at_17) rfl k) ?_
    show WP p e below _ (s₁.setTop (mkF m 18 #[.val (.int p1), .val (.int p2), .val (.int p3), .val (.int p4), .val (.int p5), .val (.int (1 : Int32)), .val (.int vi3), .val (.int vi4), .unset, .unset, .unset, .unset] [(.int (p3.toInt8.toInt32))]))
    refine own_go (fun t_ k => XS.istore X0.here hx rfl (hb hby at_18) rfl (l' := #[.val (.int p1), .val (.int p2), .val (.int p3), .val (.int p4), .val (.int p5), .val (.int (1 : Int32)), .val (.int vi3), .val (.int vi4), .val (.int (p3.toInt8.toInt32)), .unset, .unset, .unset]) rfl k) ?_
    show WP p e below _ (s₁.setTop (mkF m 20 #[.val (.int p1), .val (.int p2), .val (.int p3), .val (.int p4), .val (.int p5), .val (.int (1 : Int32)), .val (.int vi3), .val (.int vi4), .val (.int (p3.toInt8.toInt32)), .unset, .unset, .unset] []))
    generalize he5 : (p3.toInt8.toInt32) = vi5
    show WP p e below _ (s₁.setTop (mkF m 20 #[.val (.int p1), .val (.int p2), .val (.int p3), .val (.int p4), .val (.int p5), .val (.int (1 : Int32)), .val (.int vi3), .val (.int vi4), .val (.int vi5), .unset, .unset, .unset] []))
    refine own_go (fun t_ k => XS.iloadN X0.here hx rfl (hb hby at_20) rfl k) ?_
    show WP p e below _ (s₁.setTop (mkF m 21 #[.val (.int p1), .val (.int p2), .val (.int p3), .val (.int p4), .val (.int p5), .val (.int (1 : Int32)), .val (.int vi3), .val (.int vi4), .val (.int vi5), .unset, .unset, .unset] [(.int p4)]))
    refine own_go (fun t_ k => XS.i2b X0.here hx rfl (hb hby at_21) rfl k) ?_
    show WP p e below _ (s₁.setTop (mkF m 22 #[.val (.int p1), .val (.int p2), .val (.int p3), .val (.int p4), .val (.int p5), .val (.int (1 : Int32)), .val (.int vi3), .val (.int vi4), .val (.int vi5), .unset, .unset, .unset] [(.int (p4.toInt8.toInt32))]))
    refine own_go (fun t_ k => XS.istore X0.here hx rfl (hb hby at_22) rfl (l' := #[.val (.int p1), .val (.int p2), .val (.int p3), .val (.int p4), .val (.int p5), .val (.int (1 : Int32)), .val (.int vi3), .val (.int vi4), .val (.int vi5), .val (.int (p4.toInt8.toInt32)), .unset, .unset]) rfl k) ?_
    show WP p e below _ (s₁.setTop (mkF m 24 #[.val (.int p1), .val (.int p2), .val (.int p3), .val (.int p4), .val (.int p5), .val (.int (1 : Int32)), .val (.int vi3), .val (.int vi4), .val (.int vi5), .val (.int (p4.toInt8.toInt32)), .unset, .unset] []))
    generalize he6 : (p4.toInt8.toInt32) = vi6
    show WP p e below _ (s₁.setTop (mkF m 24 #[.val (.int p1), .val (.int p2), .val (.int p3), .val (.int p4), .val (.int p5), .val (.int (1 : Int32)), .val (.int vi3), .val (.int vi4), .val (.int vi5), .val (.int vi6), .unset, .unset] []))
    obtain ⟨T7, h7, X7, e7, E7, A7, D7, -, st7⟩ := newO X0 hx hZ hown (hw _ (List.mem_of_getElem? (i := 0) rfl)) (hw _ (List.mem_of_getElem? (i := 1) rfl)) (hw _ (List.mem_of_getElem? (i := 2) rfl)) e0 (g := (mkF m 24 #[.val (.int p1), .val (.int p2), .val (.int p3), .val (.int p4), .val (.int p5), .val (.int (1 : Int32)), .val (.int vi3), .val (.int vi4), .val (.int vi5), .val (.int vi6), .unset, .unset] [])) rfl (hb hby at_24) (by decide) (by decide)
    obtain ⟨b7, g7⟩ : ∃ z, z = Array.size h0 := ⟨_, rfl⟩
    rw [← g7] at A7 D7 st7
    refine own_go st7 ?_
    have g_b7 : n0 ≤ b7 := Nat.le_trans (Nat.le_trans Z0 (Keep.refl h0 []).1) (Nat.le_of_eq g7.symm)
    have sz_b7 : h0.size ≤ b7 := Nat.le_trans (Keep.refl h0 []).1 (Nat.le_of_eq g7.symm)
    have K7 : Keep h0 h7 [] := (Keep.refl h0 []).ext E7
    have F7_blocks : Fld Z h7 b7 "com/example/vestry/vestry/ByteBlocks" "blocks" "[[B" .null := D7 (Or.inl (hw _ (List.mem_of_getElem? (i := 12) rfl))) (ty := (.array (.array .byte))) (by decide)
    have F7_size : Fld Z h7 b7 "com/example/vestry/vestry/ByteBlocks" "size" "J" (.long (0 : Int64)) := D7 (Or.inl (hw _ (List.mem_of_getElem? (i := 19) rfl))) (ty := .long) (by decide)
    show WP p e below _ (T7.setTop (mkF m 27 #[.val (.int p1), .val (.int p2), .val (.int p3), .val (.int p4), .val (.int p5), .val (.int (1 : Int32)), .val (.int vi3), .val (.int vi4), .val (.int vi5), .val (.int vi6), .unset, .unset] [(.ref b7)]))
    refine own_go (fun t_ k => XS.dup X7.here hx rfl (hb hby at_27) rfl rfl k) ?_
    show WP p e below _ (T7.setTop (mkF m 28 #[.val (.int p1), .val (.int p2), .val (.int p3), .val (.int p4), .val (.int p5), .val (.int (1 : Int32)), .val (.int vi3), .val (.int vi4), .val (.int vi5), .val (.int vi6), .unset, .unset] [(.ref b7), (.ref b7)]))
    obtain ⟨_, _, ⟨T8, L8, k8, n8⟩, -, X8, ⟨Lc8, hQ8, l8, y8, z8⟩, st8⟩ := X7.specialBack hx (y := (⟨"com/example/vestry/vestry/ByteBlocks", "<init>", "()V"⟩ : MethodName)) rfl hown (mvT hZ (hw _ (List.mem_of_getElem? (i := 3) rfl))) (mvT hZ (hw _ (List.mem_of_getElem? (i := 4) rfl))) (mvT hZ (hw _ (List.mem_of_getElem? (i := 5) rfl))) (by decide) (backOf (W := 1) (rm_i l Z a0 hw [] b7 h7 n0 (Nat.le_trans Z0 K7.1) A7 g_b7 F7_blocks F7_size) hZ (hw _ (List.mem_of_getElem? (i := 5) rfl)) (hw _ (List.mem_of_getElem? (i := 2) rfl)) (by decide) (by decide)) (g := (mkF m 28 #[.val (.int p1), .val (.int p2), .val (.int p3), .val (.int p4), .val (.int p5), .val (.int (1 : Int32)), .val (.int vi3), .val (.int vi4), .val (.int vi5), .val (.int vi6), .unset, .unset] [(.ref b7), (.ref b7)])) rfl (by rw [hml]; rfl) (Steps.refl _) (a := b7) (argsL := []) (rest := [(.ref b7)]) (lenOf pd_0 rfl) rfl (by show 2 * 0 + _ ≤ _; exact Nat.le_of_eq rfl) (hb hby at_28) (fun _ _ => ⟨rfl, e7, (by decide : 1 + 1 ≤ _), (by decide : 2 + 1 ≤ _)⟩)
    dsimp only [Pt.U, Pt.locs, Pt.cells, Pt.slots] at X8 l8 y8 z8 st8 hQ8
    subst l8 y8 z8
    obtain ⟨rfl, N8q, K8c, t8, kk8, gt8, szt8', P8, O8⟩ := hQ8
    have N8 := Fr.app N0 N8q
    replace X8 : Stand p l e room_1 s m _ below meth c T8 _ 2 3 := X8
    refine own_go (fun t_ k => st8.trans k) ?_
    have K8 : Keep h0 T8.heap [] := K7.trans K8c (allS (Or.inr sz_b7) all0)
    have szt8 : h0.size ≤ t8 := Nat.le_trans K7.1 szt8'
    show WP p e below _ (T8.setTop (mkF m 31 #[.val (.int p1), .val (.int p2), .val (.int p3), .val (.int p4), .val (.int p5), .val (.int (1 : Int32)), .val (.int vi3), .val (.int vi4), .val (.int vi5), .val (.int vi6), .unset, .unset] [(.ref b7)]))
    refine own_go (fun t_ k => XS.astore X8.here hx rfl (hb hby at_31) rfl rfl (l' := #[.val (.int p1), .val (.int p2), .val (.int p3), .val (.int p4), .val (.int p5), .val (.int (1 : Int32)), .val (.int vi3), .val (.int vi4), .val (.int vi5), .val (.int vi6), .val (.ref b7), .unset]) rfl k) ?_
    show WP p e below _ (T8.setTop (mkF m 33 #[.val (.int p1), .val (.int p2), .val (.int p3), .val (.int p4), .val (.int p5), .val (.int (1 : Int32)), .val (.int vi3), .val (.int vi4), .val (.int vi5), .val (.int vi6), .val (.ref b7), .unset] []))
    refine own_go (fun t_ k => XS.aload X8.here hx rfl (hb hby at_33) rfl rfl k) ?_
    show WP p e below _ (T8.setTop (mkF m 35 #[.val (.int p1), .val (.int p2), .val (.int p3), .val (.int p4), .val (.int p5), .val (.int (1 : Int32)), .val (.int vi3), .val (.int vi4), .val (.int vi5), .val (.int vi6), .val (.ref b7), .unset] [(.ref b7)]))
    refine own_go (fun t_ k => XS.iload X8.here hx rfl (hb hby at_35) rfl k) ?_
    show WP p e below _ (T8.setTop (mkF m 37 #[.val (.int p1), .val (.int p2), .val (.int p3), .val (.int p4), .val (.int p5), .val (.int (1 : Int32)), .val (.int vi3), .val (.int vi4), .val (.int vi5), .val (.int vi6), .val (.ref b7), .unset] [(.int vi3), (.ref b7)]))
    obtain ⟨cq9, kq9, q9a, q9b, q9c⟩ := isOf (T := T8) hZ rfl P8.1
    obtain ⟨_, _, ⟨T9, L9, k9, n9⟩, -, X9, ⟨Lc9, hQ9, l9, y9, z9⟩, st9⟩ := X8.virtualBack hx (y := (⟨"com/example/vestry/vestry/ByteBlocks", "append", "(B)V"⟩ : MethodName)) (z := (⟨"com/example/vestry/vestry/ByteBlocks", "append", "(B)V"⟩ : MethodName)) hown (mvT hZ (hw _ (List.mem_of_getElem? (i := 13) rfl))) (mvT hZ (hw _ (List.mem_of_getElem? (i := 14) rfl))) (notFace_of_selects (args := #[]) (mvT hZ (hw _ (List.mem_of_getElem? (i := 16) rfl)))) (mvT hZ (hw _ (List.mem_of_getElem? (i := 16) rfl))) (mvT hZ (hw _ (List.mem_of_getElem? (i := 15) rfl))) (by decide) (backOf (W := 0) (rm_a0 l Z a0 hw [] b7 vi3 t8 kk8 T8.heap n0 (Nat.le_trans Z0 K8.1) P8 O8 g_b7 gt8) hZ (hw _ (List.mem_of_getElem? (i := 17) rfl)) (hw _ (List.mem_of_getElem? (i := 2) rfl)) (by decide) (by decide)) q9a q9c (g := (mkF m 37 #[.val (.int p1), .val (.int p2), .val (.int p3), .val (.int p4), .val (.int p5), .val (.int (1 : Int32)), .val (.int vi3), .val (.int vi4), .val (.int vi5), .val (.int vi6), .val (.ref b7), .unset] [(.int vi3), (.ref b7)])) rfl (by rw [hml]; rfl) (Steps.refl _) (argsL := [(.int vi3)]) (rest := []) (lenOf pd_1 rfl) rfl (by show 2 * 0 + _ ≤ _; exact Nat.le_of_eq rfl) (hb hby at_37) (fun _ _ => ⟨rfl, rfl, (by decide : 2 + 1 ≤ _), (by decide : 3 + 65536 ≤ _)⟩)
    dsimp only [Pt.U, Pt.locs, Pt.cells, Pt.slots] at X9 l9 y9 z9 st9 hQ9
    subst l9 y9 z9
    obtain ⟨rfl, N9q, K9c, b9, kb9, gb9, szb9', P9⟩ := hQ9
    have N9 := Fr.app N8 N9q
    replace X9 : Stand p l e room_1 s m _ below meth c T9 _ 3 65539 := X9
    refine own_go (fun t_ k => st9.trans k) ?_
    have K9 : Keep h0 T9.heap [] := K8.trans K9c (allS (Or.inr sz_b7) (allS (Or.inr szt8) all0))
    have szb9 : h0.size ≤ b9 := Nat.le_trans K8.1 szb9'
    replace P9 : BB Z T9.heap b7 t8 kk8 b9 kb9 (1 : Int64) [(vi3.toInt8.toInt32)] := P9
    show WP p e below _ (T9.setTop (mkF m 40 #[.val (.int p1), .val (.int p2), .val (.int p3), .val (.int p4), .val (.int p5), .val (.int (1 : Int32)), .val (.int vi3), .val (.int vi4), .val (.int vi5), .val (.int vi6), .val (.ref b7), .unset] []))
    refine own_go (fun t_ k => XS.aload X9.here hx rfl (hb hby at_40) rfl rfl k) ?_
    show WP p e below _ (T9.setTop (mkF m 42 #[.val (.int p1), .val (.int p2), .val (.int p3), .val (.int p4), .val (.int p5), .val (.int (1 : Int32)), .val (.int vi3), .val (.int vi4), .val (.int vi5), .val (.int vi6), .val (.ref b7), .unset] [(.ref b7)]))
    refine own_go (fun t_ k => XS.lconst X9.here hx rfl (hb hby at_42) k) ?_
    show WP p e below _ (T9.setTop (mkF m 43 #[.val (.int p1), .val (.int p2), .val (.int p3), .val (.int p4), .val (.int p5), .val (.int (1 : Int32)), .val (.int vi3), .val (.int vi4), .val (.int vi5), .val (.int vi6), .val (.ref b7), .unset] [(.long (0 : Int64)), (.ref b7)]))
    obtain ⟨cq10, kq10, q10a, q10b, q10c⟩ := isOf (T := T9) hZ rfl P9.1
    obtain ⟨_, _, ⟨T10, L10, k10, n10⟩, -, X10, ⟨Lc10, hQ10, l10, y10, z10⟩, st10⟩ := X9.virtualBack hx (y := (⟨"com/example/vestry/vestry/ByteBlocks", "at", "(J)B"⟩ : MethodName)) (z := (⟨"com/example/vestry/vestry/ByteBlocks", "at", "(J)B"⟩ : MethodName)) hown (mvT hZ (hw _ (List.mem_of_getElem? (i := 24) rfl))) (mvT hZ (hw _ (List.mem_of_getElem? (i := 25) rfl))) (notFace_of_selects (args := #[]) (mvT hZ (hw _ (List.mem_of_getElem? (i := 27) rfl)))) (mvT hZ (hw _ (List.mem_of_getElem? (i := 27) rfl))) (mvT hZ (hw _ (List.mem_of_getElem? (i := 26) rfl))) (by decide) (backOf (W := 0) (rm_at0 l Z a0 hw [] b7 (0 : Int64) t8 kk8 b9 kb9 (1 : Int64) [(vi3.toInt8.toInt32)] T9.heap n0 P9 rfl) hZ (hw _ (List.mem_of_getElem? (i := 28) rfl)) (hw _ (List.mem_of_getElem? (i := 2) rfl)) (by decide) (by decide)) q10a q10c (g := (mkF m 43 #[.val (.int p1), .val (.int p2), .val (.int p3), .val (.int p4), .val (.int p5), .val (.int (1 : Int32)), .val (.int vi3), .val (.int vi4), .val (.int vi5), .val (.int vi6), .val (.ref b7), .unset] [(.long (0 : Int64)), (.ref b7)])) rfl (by rw [hml]; rfl) (Steps.refl _) (argsL := [(.long (0 : Int64))]) (rest := []) (lenOf pd_2 rfl) rfl (by show 2 * 0 + _ ≤ _; exact Nat.le_of_eq rfl) (hb hby at_43) (fun _ _ => ⟨rfl, rfl, (by decide : 3 + 0 ≤ _), (by decide : 65539 + 0 ≤ _)⟩)
    dsimp only [Pt.U, Pt.locs, Pt.cells, Pt.slots] at X10 l10 y10 z10 st10 hQ10
    subst l10 y10 z10
    obtain ⟨rfl, N10q, e10⟩ := hQ10
    have N10 := Fr.app N9 N10q
    replace X10 : Stand p l e room_1 s m _ below meth c T10 _ 3 65539 := X10
    refine own_go (fun t_ k => st10.trans k) ?_
    show WP p e below _ (T10.setTop (mkF m 46 #[.val (.int p1), .val (.int p2), .val (.int p3), .val (.int p4), .val (.int p5), .val (.int (1 : Int32)), .val (.int vi3), .val (.int vi4), .val (.int vi5), .val (.int vi6), .val (.ref b7), .unset] [(.int ((vi3.toInt8.toInt32).toInt8.toInt32))]))
    generalize he11 : ((vi3.toInt8.toInt32).toInt8.toInt32) = vi11
    show WP p e below _ (T10.setTop (mkF m 46 #[.val (.int p1), .val (.int p2), .val (.int p3), .val (.int p4), .val (.int p5), .val (.int (1 : Int32)), .val (.int vi3), .val (.int vi4), .val (.int vi5), .val (.int vi6), .val (.ref b7), .unset] [(.int vi11)]))
    refine own_go (fun t_ k => XS.iload X10.here hx rfl (hb hby at_46) rfl k) ?_
    show WP p e below _ (T10.setTop (mkF m 48 #[.val (.int p1), .val (.int p2), .val (.int p3), .val (.int p4), .val (.int p5), .val (.int (1 : Int32)), .val (.int vi3), .val (.int vi4), .val (.int vi5), .val (.int vi6), .val (.ref b7), .unset] [(.int vi3), (.int vi11)]))
    have J14 : ∀ (T14 : State) (ls14 : List Loc) (X14 : Stand p l e room_1 s m #[(.int p1), (.int p2), (.int p3), (.int p4), (.int p5)] below meth c T14 ls14 3 65539) (N14 : Fr n0 ls14) (e14 : T14.heap = T9.heap) (z13_S0 : Int32) (hz13_S0 : z13_S0 = (if vi11 = vi3 then (1 : Int32) else (0 : Int32))), WP p e below (GG (Q0 n0) s room_1.cells room_1.slots) (T14.setTop (mkF m 56 #[.val (.int p1), .val (.int p2), .val (.int p3), .val (.int p4), .val (.int p5), .val (.int (1 : Int32)), .val (.int vi3), .val (.int vi4), .val (.int vi5), .val (.int vi6), .val (.ref b7), .unset] [(.int z13_S0)])) := by
      intro T14 ls14 X14 N14 e14 z13_S0 hz13_S0
      show WP p e below _ (T14.setTop (mkF m 56 #[.val (.int p1), .val (.int p2), .val (.int p3), .val (.int p4), .val (.int p5), .val (.int (1 : Int32)), .val (.int vi3), .val (.int vi4), .val (.int vi5), .val (.int vi6), .val (.ref b7), .unset] [(.int z13_S0)]))
      refine own_go (fun t_ k => XS.istore X14.here hx rfl (hb hby at_56) rfl (l' := #[.val (.int p1), .val (.int p2), .val (.int p3), .val (.int p4), .val (.int p5), .val (.int (1 : Int32)), .val (.int vi3), .val (.int vi4), .val (.int vi5), .val (.int vi6), .val (.ref b7), .val (.int z13_S0)]) rfl k) ?_
      show WP p e below _ (T14.setTop (mkF m 58 #[.val (.int p1), .val (.int p2), .val (.int p3), .val (.int p4), .val (.int p5), .val (.int (1 : Int32)), .val (.int vi3), .val (.int vi4), .val (.int vi5), .val (.int vi6), .val (.ref b7), .val (.int z13_S0)] []))
      refine own_go (fun t_ k => XS.iload X14.here hx rfl (hb hby at_58) rfl k) ?_
      show WP p e below _ (T14.setTop (mkF m 60 #[.val (.int p1), .val (.int p2), .val (.int p3), .val (.int p4), .val (.int p5), .val (.int (1 : Int32)), .val (.int vi3), .val (.int vi4), .val (.int vi5), .val (.int vi6), .val (.ref b7), .val (.int z13_S0)] [(.int (1 : Int32))]))
      refine own_go (fun t_ k => XS.iconst X14.here hx rfl (hb hby at_60) k) ?_
      show WP p e below _ (T14.setTop (mkF m 61 #[.val (.int p1), .val (.int p2), .val (.int p3), .val (.int p4), .val (.int p5), .val (.int (1 : Int32)), .val (.int vi3), .val (.int vi4), .val (.int vi5), .val (.int vi6), .val (.ref b7), .val (.int z13_S0)] [(.int (1 : Int32)), (.int (1 : Int32))]))
      have hc61_15 : ¬ ((1 : Int32) < (1 : Int32)) := by decide
      refine own_go (fun t_ k => XS.icmpYes X14.here hx rfl (pc0 := 61) (pc' := 71) rfl (hb hby at_61) rfl (flt hc61_15).2.2.2 (by decide) (by decide) k) ?_
      show WP p e below _ (T14.setTop (mkF m 71 #[.val (.int p1), .val (.int p2), .val (.int p3), .val (.int p4), .val (.int p5), .val (.int (1 : Int32)), .val (.int vi3), .val (.int vi4), .val (.int vi5), .val (.int vi6), .val (.ref b7), .val (.int z13_S0)] []))
      refine own_go (fun t_ k => XS.iload X14.here hx rfl (hb hby at_71) rfl k) ?_
      show WP p e below _ (T14.setTop (mkF m 73 #[.val (.int p1), .val (.int p2), .val (.int p3), .val (.int p4), .val (.int p5), .val (.int (1 : Int32)), .val (.int vi3), .val (.int vi4), .val (.int vi5), .val (.int vi6), .val (.ref b7), .val (.int z13_S0)] [(.int (1 : Int32))]))
      refine own_go (fun t_ k => XS.iconst X14.here hx rfl (hb hby at_73) k) ?_
      show WP p e below _ (T14.setTop (mkF m 74 #[.val (.int p1), .val (.int p2), .val (.int p3), .val (.int p4), .val (.int p5), .val (.int (1 : Int32)), .val (.int vi3), .val (.int vi4), .val (.int vi5), .val (.int vi6), .val (.ref b7), .val (.int z13_S0)] [(.int (2 : Int32)), (.int (1 : Int32))]))
      have hc74_16 : ¬ ((2 : Int32) < (1 : Int32)) := by decide
      refine own_go (fun t_ k => XS.icmpYes X14.here hx rfl (pc0 := 74) (pc' := 84) rfl (hb hby at_74) rfl (flt hc74_16).2.2.2 (by decide) (by decide) k) ?_
      show WP p e below _ (T14.setTop (mkF m 84 #[.val (.int p1), .val (.int p2), .val (.int p3), .val (.int p4), .val (.int p5), .val (.int (1 : Int32)), .val (.int vi3), .val (.int vi4), .val (.int vi5), .val (.int vi6), .val (.ref b7), .val (.int z13_S0)] []))
      refine own_go (fun t_ k => XS.iload X14.here hx rfl (hb hby at_84) rfl k) ?_
      show WP p e below _ (T14.setTop (mkF m 86 #[.val (.int p1), .val (.int p2), .val (.int p3), .val (.int p4), .val (.int p5), .val (.int (1 : Int32)), .val (.int vi3), .val (.int vi4), .val (.int vi5), .val (.int vi6), .val (.ref b7), .val (.int z13_S0)] [(.int (1 : Int32))]))
      refine own_go (fun t_ k => XS.iconst X14.here hx rfl (hb hby at_86) k) ?_
      show WP p e below _ (T14.setTop (mkF m 87 #[.val (.int p1), .val (.int p2), .val (.int p3), .val (.int p4), .val (.int p5), .val (.int (1 : Int32)), .val (.int vi3), .val (.int vi4), .val (.int vi5), .val (.int vi6), .val (.ref b7), .val (.int z13_S0)] [(.int (3 : Int32)), (.int (1 : Int32))]))
      have hc87_17 : ¬ ((3 : Int32) < (1 : Int32)) := by decide
      refine own_go (fun t_ k => XS.icmpYes X14.here hx rfl (pc0 := 87) (pc' := 97) rfl (hb hby at_87) rfl (flt hc87_17).2.2.2 (by decide) (by decide) k) ?_
      show WP p e below _ (T14.setTop (mkF m 97 #[.val (.int p1), .val (.int p2), .val (.int p3), .val (.int p4), .val (.int p5), .val (.int (1 : Int32)), .val (.int vi3), .val (.int vi4), .val (.int vi5), .val (.int vi6), .val (.ref b7), .val (.int z13_S0)] []))
      refine own_go (fun t_ k => XS.iload X14.here hx rfl (hb hby at_97) rfl k) ?_
      show WP p e below _ (T14.setTop (mkF m 99 #[.val (.int p1), .val (.int p2), .val (.int p3), .val (.int p4), .val (.int p5), .val (.int (1 : Int32)), .val (.int vi3), .val (.int vi4), .val (.int vi5), .val (.int vi6), .val (.ref b7), .val (.int z13_S0)] [(.int z13_S0)]))
      have J20 : ∀ (T20 : State) (ls20 : List Loc) (X20 : Stand p l e room_1 s m #[(.int p1), (.int p2), (.int p3), (.int p4), (.int p5)] below meth c T20 ls20 3 65539) (N20 : Fr n0 ls20) (e20 : T20.heap = T9.heap) (z19_S0 : Int32) (hz19_S0 : z19_S0 = (if z13_S0 = (0 : Int32) then (0 : Int32) else (if ((vi3.toInt8.toInt32).toInt8.toInt32) = vi3 then (1 : Int32) else (0 : Int32)))), WP p e below (GG (Q0 n0) s room_1.cells room_1.slots) (T20.setTop (mkF m 118 #[.val (.int p1), .val (.int p2), .val (.int p3), .val (.int p4), .val (.int p5), .val (.int (1 : Int32)), .val (.int vi3), .val (.int vi4), .val (.int vi5), .val (.int vi6), .val (.ref b7), .val (.int z13_S0)] [(.int z19_S0)])) := by
        intro T20 ls20 X20 N20 e20 z19_S0 hz19_S0
        show WP p e below _ (T20.setTop (mkF m 118 #[.val (.int p1), .val (.int p2), .val (.int p3), .val (.int p4), .val (.int p5), .val (.int (1 : Int32)), .val (.int vi3), .val (.int vi4), .val (.int vi5), .val (.int vi6), .val (.ref b7), .val (.int z13_S0)] [(.int z19_S0)]))
        refine own_go (fun t_ k => XS.istore X20.here hx rfl (hb hby at_118) rfl (l' := #[.val (.int p1), .val (.int p2), .val (.int p3), .val (.int p4), .val (.int p5), .val (.int (1 : Int32)), .val (.int vi3), .val (.int vi4), .val (.int vi5), .val (.int vi6), .val (.ref b7), .val (.int z19_S0)]) rfl k) ?_
        show WP p e below _ (T20.setTop (mkF m 120 #[.val (.int p1), .val (.int p2), .val (.int p3), .val (.int p4), .val (.int p5), .val (.int (1 : Int32)), .val (.int vi3), .val (.int vi4), .val (.int vi5), .val (.int vi6), .val (.ref b7), .val (.int z19_S0)] []))
        refine own_go (fun t_ k => XS.iload X20.here hx rfl (hb hby at_120) rfl k) ?_
        show WP p e below _ (T20.setTop (mkF m 122 #[.val (.int p1), .val (.int p2), .val (.int p3), .val (.int p4), .val (.int p5), .val (.int (1 : Int32)), .val (.int vi3), .val (.int vi4), .val (.int vi5), .val (.int vi6), .val (.ref b7), .val (.int z19_S0)] [(.int (1 : Int32))]))
        refine own_go (fun t_ k => XS.iconst X20.here hx rfl (hb hby at_122) k) ?_
        show WP p e below _ (T20.setTop (mkF m 123 #[.val (.int p1), .val (.int p2), .val (.int p3), .val (.int p4), .val (.int p5), .val (.int (1 : Int32)), .val (.int vi3), .val (.int vi4), .val (.int vi5), .val (.int vi6), .val (.ref b7), .val (.int z19_S0)] [(.int (1 : Int32)), (.int (1 : Int32))]))
        have hc123_21 : ¬ ((1 : Int32) < (1 : Int32)) := by decide
        refine own_go (fun t_ k => XS.icmpYes X20.here hx rfl (pc0 := 123) (pc' := 149) rfl (hb hby at_123) rfl (flt hc123_21).2.2.2 (by decide) (by decide) k) ?_
        show WP p e below _ (T20.setTop (mkF m 149 #[.val (.int p1), .val (.int p2), .val (.int p3), .val (.int p4), .val (.int p5), .val (.int (1 : Int32)), .val (.int vi3), .val (.int vi4), .val (.int vi5), .val (.int vi6), .val (.ref b7), .val (.int z19_S0)] []))
        refine own_go (fun t_ k => XS.iload X20.here hx rfl (hb hby at_149) rfl k) ?_
        show WP p e below _ (T20.setTop (mkF m 151 #[.val (.int p1), .val (.int p2), .val (.int p3), .val (.int p4), .val (.int p5), .val (.int (1 : Int32)), .val (.int vi3), .val (.int vi4), .val (.int vi5), .val (.int vi6), .val (.ref b7), .val (.int z19_S0)] [(.int (1 : Int32))]))
        refine own_go (fun t_ k => XS.iconst X20.here hx rfl (hb hby at_151) k) ?_
        show WP p e below _ (T20.setTop (mkF m 152 #[.val (.int p1), .val (.int p2), .val (.int p3), .val (.int p4), .val (.int p5), .val (.int (1 : Int32)), .val (.int vi3), .val (.int vi4), .val (.int vi5), .val (.int vi6), .val (.ref b7), .val (.int z19_S0)] [(.int (2 : Int32)), (.int (1 : Int32))]))
        have hc152_22 : ¬ ((2 : Int32) < (1 : Int32)) := by decide
        refine own_go (fun t_ k => XS.icmpYes X20.here hx rfl (pc0 := 152) (pc' := 180) rfl (hb hby at_152) rfl (flt hc152_22).2.2.2 (by decide) (by decide) k) ?_
        show WP p e below _ (T20.setTop (mkF m 180 #[.val (.int p1), .val (.int p2), .val (.int p3), .val (.int p4), .val (.int p5), .val (.int (1 : Int32)), .val (.int vi3), .val (.int vi4), .val (.int vi5), .val (.int vi6), .val (.ref b7), .val (.int z19_S0)] []))
        refine own_go (fun t_ k => XS.iload X20.here hx rfl (hb hby at_180) rfl k) ?_
        show WP p e below _ (T20.setTop (mkF m 182 #[.val (.int p1), .val (.int p2), .val (.int p3), .val (.int p4), .val (.int p5), .val (.int (1 : Int32)), .val (.int vi3), .val (.int vi4), .val (.int vi5), .val (.int vi6), .val (.ref b7), .val (.int z19_S0)] [(.int (1 : Int32))]))
        refine own_go (fun t_ k => XS.iconst X20.here hx rfl (hb hby at_182) k) ?_
        show WP p e below _ (T20.setTop (mkF m 183 #[.val (.int p1), .val (.int p2), .val (.int p3), .val (.int p4), .val (.int p5), .val (.int (1 : Int32)), .val (.int vi3), .val (.int vi4), .val (.int vi5), .val (.int vi6), .val (.ref b7), .val (.int z19_S0)] [(.int (3 : Int32)), (.int (1 : Int32))]))
        have hc183_23 : ¬ ((3 : Int32) < (1 : Int32)) := by decide
        refine own_go (fun t_ k => XS.icmpYes X20.here hx rfl (pc0 := 183) (pc' := 211) rfl (hb hby at_183) rfl (flt hc183_23).2.2.2 (by decide) (by decide) k) ?_
        show WP p e below _ (T20.setTop (mkF m 211 #[.val (.int p1), .val (.int p2), .val (.int p3), .val (.int p4), .val (.int p5), .val (.int (1 : Int32)), .val (.int vi3), .val (.int vi4), .val (.int vi5), .val (.int vi6), .val (.ref b7), .val (.int z19_S0)] []))
        refine own_go (fun t_ k => XS.iload X20.here hx rfl (hb hby at_211) rfl k) ?_
        show WP p e below _ (T20.setTop (mkF m 213 #[.val (.int p1), .val (.int p2), .val (.int p3), .val (.int p4), .val (.int p5), .val (.int (1 : Int32)), .val (.int vi3), .val (.int vi4), .val (.int vi5), .val (.int vi6), .val (.ref b7), .val (.int z19_S0)] [(.int z19_S0)]))
        exact own_retZ X20 hx Bd.notSynchronized Bd.returns (hb hby at_213) (by rw [hz19_S0]; (repeat' split); all_goals first | exact Or.inl rfl | exact Or.inr rfl) (show Q0 n0 _ _ _ from ⟨congrArg (fun z => some (Value.int z)) (own_law_1 (p1 := p1) (p2 := p2) (p3 := p3) (p4 := p4) (p5 := p5) he1 he3 he4 he5 he6 he11 hz13_S0 hz19_S0), N20⟩) (by decide) (by decide)
      by_cases hc99_18 : z13_S0 = (0 : Int32)
      · refine own_go (fun t_ k => XS.ifYes X14.here hx rfl (pc0 := 99) (pc' := 117) rfl (hb hby at_99) rfl ((if0 _ _).trans (teq hc99_18).1) (by decide) (by decide) k) ?_
        show WP p e below _ (T14.setTop (mkF m 117 #[.val (.int p1), .val (.int p2), .val (.int p3), .val (.int p4), .val (.int p5), .val (.int (1 : Int32)), .val (.int vi3), .val (.int vi4), .val (.int vi5), .val (.int vi6), .val (.ref b7), .val (.int z13_S0)] []))
        refine own_go (fun t_ k => XS.iconst X14.here hx rfl (hb hby at_117) k) ?_
        show WP p e below _ (T14.setTop (mkF m 118 #[.val (.int p1), .val (.int p2), .val (.int p3), .val (.int p4), .val (.int p5), .val (.int (1 : Int32)), .val (.int vi3), .val (.int vi4), .val (.int vi5), .val (.int vi6), .val (.ref b7), .val (.int z13_S0)] [(.int (0 : Int32))]))
        exact J20 T14 _ X14 N14 e14 _ (by rw [if_pos hc99_18])
      · refine own_go (fun t_ k => XS.ifNo X14.here hx rfl (hb hby at_99) rfl ((if0 _ _).trans (feq hc99_18).1) k) ?_
        show WP p e below _ (T14.setTop (mkF m 102 #[.val (.int p1), .val (.int p2), .val (.int p3), .val (.int p4), .val (.int p5), .val (.int (1 : Int32)), .val (.int vi3), .val (.int vi4), .val (.int vi5), .val (.int vi6), .val (.ref b7), .val (.int z13_S0)] []))
        refine own_go (fun t_ k => XS.aload X14.here hx rfl (hb hby at_102) rfl rfl k) ?_
        show WP p e below _ (T14.setTop (mkF m 104 #[.val (.int p1), .val (.int p2), .val (.int p3), .val (.int p4), .val (.int p5), .val (.int (1 : Int32)), .val (.int vi3), .val (.int vi4), .val (.int vi5), .val (.int vi6), .val (.ref b7), .val (.int z13_S0)] [(.ref b7)]))
        refine own_go (fun t_ k => XS.lconst X14.here hx rfl (hb hby at_104) k) ?_
        show WP p e below _ (T14.setTop (mkF m 105 #[.val (.int p1), .val (.int p2), .val (.int p3), .val (.int p4), .val (.int p5), .val (.int (1 : Int32)), .val (.int vi3), .val (.int vi4), .val (.int vi5), .val (.int vi6), .val (.ref b7), .val (.int z13_S0)] [(.long (0 : Int64)), (.ref b7)]))
        obtain ⟨cq24, kq24, q24a, q24b, q24c⟩ := isOf (T := T14) hZ e14 P9.1
        obtain ⟨_, _, ⟨T24, L24, k24, n24⟩, -, X24, ⟨Lc24, hQ24, l24, y24, z24⟩, st24⟩ := X14.virtualBack hx (y := (⟨"com/example/vestry/vestry/ByteBlocks", "at", "(J)B"⟩ : MethodName)) (z := (⟨"com/example/vestry/vestry/ByteBlocks", "at", "(J)B"⟩ : MethodName)) hown (mvT hZ (hw _ (List.mem_of_getElem? (i := 24) rfl))) (mvT hZ (hw _ (List.mem_of_getElem? (i := 25) rfl))) (notFace_of_selects (args := #[]) (mvT hZ (hw _ (List.mem_of_getElem? (i := 27) rfl)))) (mvT hZ (hw _ (List.mem_of_getElem? (i := 27) rfl))) (mvT hZ (hw _ (List.mem_of_getElem? (i := 26) rfl))) (by decide) (backOf (W := 0) (rm_at0 l Z a0 hw [] b7 (0 : Int64) t8 kk8 b9 kb9 (1 : Int64) [(vi3.toInt8.toInt32)] T9.heap n0 P9 rfl) hZ (hw _ (List.mem_of_getElem? (i := 28) rfl)) (hw _ (List.mem_of_getElem? (i := 2) rfl)) (by decide) (by decide)) q24a q24c (g := (mkF m 105 #[.val (.int p1), .val (.int p2), .val (.int p3), .val (.int p4), .val (.int p5), .val (.int (1 : Int32)), .val (.int vi3), .val (.int vi4), .val (.int vi5), .val (.int vi6), .val (.ref b7), .val (.int z13_S0)] [(.long (0 : Int64)), (.ref b7)])) rfl (by rw [hml]; rfl) (Steps.refl _) (argsL := [(.long (0 : Int64))]) (rest := []) (lenOf pd_2 rfl) rfl (by show 2 * 0 + _ ≤ _; exact Nat.le_of_eq rfl) (hb hby at_105) (fun _ _ => ⟨rfl, e14, (by decide : 3 + 0 ≤ _), (by decide : 65539 + 0 ≤ _)⟩)
        dsimp only [Pt.U, Pt.locs, Pt.cells, Pt.slots] at X24 l24 y24 z24 st24 hQ24
        subst l24 y24 z24
        obtain ⟨rfl, N24q, e24⟩ := hQ24
        have N24 := Fr.app N14 N24q
        replace X24 : Stand p l e room_1 s m _ below meth c T24 _ 3 65539 := X24
        refine own_go (fun t_ k => st24.trans k) ?_
        show WP p e below _ (T24.setTop (mkF m 108 #[.val (.int p1), .val (.int p2), .val (.int p3), .val (.int p4), .val (.int p5), .val (.int (1 : Int32)), .val (.int vi3), .val (.int vi4), .val (.int vi5), .val (.int vi6), .val (.ref b7), .val (.int z13_S0)] [(.int ((vi3.toInt8.toInt32).toInt8.toInt32))]))
        refine own_go (fun t_ k => XS.iload X24.here hx rfl (hb hby at_108) rfl k) ?_
        show WP p e below _ (T24.setTop (mkF m 110 #[.val (.int p1), .val (.int p2), .val (.int p3), .val (.int p4), .val (.int p5), .val (.int (1 : Int32)), .val (.int vi3), .val (.int vi4), .val (.int vi5), .val (.int vi6), .val (.ref b7), .val (.int z13_S0)] [(.int vi3), (.int ((vi3.toInt8.toInt32).toInt8.toInt32))]))
        by_cases hc110_25 : ((vi3.toInt8.toInt32).toInt8.toInt32) = vi3
        · refine own_go (fun t_ k => XS.icmpNo X24.here hx rfl (hb hby at_110) rfl (teq hc110_25).2 k) ?_
          show WP p e below _ (T24.setTop (mkF m 113 #[.val (.int p1), .val (.int p2), .val (.int p3), .val (.int p4), .val (.int p5), .val (.int (1 : Int32)), .val (.int vi3), .val (.int vi4), .val (.int vi5), .val (.int vi6), .val (.ref b7), .val (.int z13_S0)] []))
          refine own_go (fun t_ k => XS.iconst X24.here hx rfl (hb hby at_113) k) ?_
          show WP p e below _ (T24.setTop (mkF m 114 #[.val (.int p1), .val (.int p2), .val (.int p3), .val (.int p4), .val (.int p5), .val (.int (1 : Int32)), .val (.int vi3), .val (.int vi4), .val (.int vi5), .val (.int vi6), .val (.ref b7), .val (.int z13_S0)] [(.int (1 : Int32))]))
          refine own_go (fun t_ k => XS.goto X24.here hx rfl (pc0 := 114) (pc' := 118) rfl (hb hby at_114) (by decide) (by decide) k) ?_
          show WP p e below _ (T24.setTop (mkF m 118 #[.val (.int p1), .val (.int p2), .val (.int p3), .val (.int p4), .val (.int p5), .val (.int (1 : Int32)), .val (.int vi3), .val (.int vi4), .val (.int vi5), .val (.int vi6), .val (.ref b7), .val (.int z13_S0)] [(.int (1 : Int32))]))
          exact J20 T24 _ X24 N24 e24 _ (by rw [if_neg hc99_18, if_pos hc110_25])
        · refine own_go (fun t_ k => XS.icmpYes X24.here hx rfl (pc0 := 110) (pc' := 117) rfl (hb hby at_110) rfl (feq hc110_25).2 (by decide) (by decide) k) ?_
          show WP p e below _ (T24.setTop (mkF m 117 #[.val (.int p1), .val (.int p2), .val (.int p3), .val (.int p4), .val (.int p5), .val (.int (1 : Int32)), .val (.int vi3), .val (.int vi4), .val (.int vi5), .val (.int vi6), .val (.ref b7), .val (.int z13_S0)] []))
          refine own_go (fun t_ k => XS.iconst X24.here hx rfl (hb hby at_117) k) ?_
          show WP p e below _ (T24.setTop (mkF m 118 #[.val (.int p1), .val (.int p2), .val (.int p3), .val (.int p4), .val (.int p5), .val (.int (1 : Int32)), .val (.int vi3), .val (.int vi4), .val (.int vi5), .val (.int vi6), .val (.ref b7), .val (.int z13_S0)] [(.int (0 : Int32))]))
          exact J20 T24 _ X24 N24 e24 _ (by rw [if_neg hc99_18, if_neg hc110_25])
    by_cases hc48_12 : vi11 = vi3
    · refine own_go (fun t_ k => XS.icmpNo X10.here hx rfl (hb hby at_48) rfl (teq hc48_12).2 k) ?_
      show WP p e below _ (T10.setTop (mkF m 51 #[.val (.int p1), .val (.int p2), .val (.int p3), .val (.int p4), .val (.int p5), .val (.int (1 : Int32)), .val (.int vi3), .val (.int vi4), .val (.int vi5), .val (.int vi6), .val (.ref b7), .unset] []))
      refine own_go (fun t_ k => XS.iconst X10.here hx rfl (hb hby at_51) k) ?_
      show WP p e below _ (T10.setTop (mkF m 52 #[.val (.int p1), .val (.int p2), .val (.int p3), .val (.int p4), .val (.int p5), .val (.int (1 : Int32)), .val (.int vi3), .val (.int vi4), .val (.int vi5), .val (.int vi6), .val (.ref b7), .unset] [(.int (1 : Int32))]))
      refine own_go (fun t_ k => XS.goto X10.here hx rfl (pc0 := 52) (pc' := 56) rfl (hb hby at_52) (by decide) (by decide) k) ?_
      show WP p e below _ (T10.setTop (mkF m 56 #[.val (.int p1), .val (.int p2), .val (.int p3), .val (.int p4), .val (.int p5), .val (.int (1 : Int32)), .val (.int vi3), .val (.int vi4), .val (.int vi5), .val (.int vi6), .val (.ref b7), .unset] [(.int (1 : Int32))]))
      exact J14 T10 _ X10 N10 e10 _ (by rw [if_pos hc48_12])
    · refine own_go (fun t_ k => XS.icmpYes X10.here hx rfl (pc0 := 48) (pc' := 55) rfl (hb hby at_48) rfl (feq hc48_12).2 (by decide) (by decide) k) ?_
      show WP p e below _ (T10.setTop (mkF m 55 #[.val (.int p1), .val (.int p2), .val (.int p3), .val (.int p4), .val (.int p5), .val (.int (1 : Int32)), .val (.int vi3), .val (.int vi4), .val (.int vi5), .val (.int vi6), .val (.ref b7), .unset] []))
      refine own_go (fun t_ k => XS.iconst X10.here hx rfl (hb hby at_55) k) ?_
      show WP p e below _ (T10.setTop (mkF m 56 #[.val (.int p1), .val (.int p2), .val (.int p3), .val (.int p4), .val (.int p5), .val (.int (1 : Int32)), .val (.int vi3), .val (.int vi4), .val (.int vi5), .val (.int vi6), .val (.ref b7), .unset] [(.int (0 : Int32))]))
      exact J14 T10 _ X10 N10 e10 _ (by rw [if_neg hc48_12])
  · subst hs2
    show WP p e below _ (s₁.setTop (mkF m 8 #[.val (.int p1), .val (.int p2), .val (.int p3), .val (.int p4), .val (.int p5), .val (.int (2 : Int32)), .unset, .unset, .unset, .unset, .unset, .unset] []))
    refine own_go (fun t_ k => XS.iloadN X0.here hx rfl (hb hby at_8) rfl k) ?_
    show WP p e below _ (s₁.setTop (mkF m 9 #[.val (.int p1), .val (.int p2), .val (.int p3), .val (.int p4), .val (.int p5), .val (.int (2 : Int32)), .unset, .unset, .unset, .unset, .unset, .unset] [(.int p1)]))
    refine own_go (fun t_ k => XS.i2b X0.here hx rfl (hb hby at_9) rfl k) ?_
    show WP p e below _ (s₁.setTop (mkF m 10 #[.val (.int p1), .val (.int p2), .val (.int p3), .val (.int p4), .val (.int p5), .val (.int (2 : Int32)), .unset, .unset, .unset, .unset, .unset, .unset] [(.int (p1.toInt8.toInt32))]))
    refine own_go (fun t_ k => XS.istore X0.here hx rfl (hb hby at_10) rfl (l' := #[.val (.int p1), .val (.int p2), .val (.int p3), .val (.int p4), .val (.int p5), .val (.int (2 : Int32)), .val (.int (p1.toInt8.toInt32)), .unset, .unset, .unset, .unset, .unset]) rfl k) ?_
    show WP p e below _ (s₁.setTop (mkF m 12 #[.val (.int p1), .val (.int p2), .val (.int p3), .val (.int p4), .val (.int p5), .val (.int (2 : Int32)), .val (.int (p1.toInt8.toInt32)), .unset, .unset, .unset, .unset, .unset] []))
    generalize he26 : (p1.toInt8.toInt32) = vi26
    show WP p e below _ (s₁.setTop (mkF m 12 #[.val (.int p1), .val (.int p2), .val (.int p3), .val (.int p4), .val (.int p5), .val (.int (2 : Int32)), .val (.int vi26), .unset, .unset, .unset, .unset, .unset] []))
    refine own_go (fun t_ k => XS.iloadN X0.here hx rfl (hb hby at_12) rfl k) ?_
    show WP p e below _ (s₁.setTop (mkF m 13 #[.val (.int p1), .val (.int p2), .val (.int p3), .val (.int p4), .val (.int p5), .val (.int (2 : Int32)), .val (.int vi26), .unset, .unset, .unset, .unset, .unset] [(.int p2)]))
    refine own_go (fun t_ k => XS.i2b X0.here hx rfl (hb hby at_13) rfl k) ?_
    show WP p e below _ (s₁.setTop (mkF m 14 #[.val (.int p1), .val (.int p2), .val (.int p3), .val (.int p4), .val (.int p5), .val (.int (2 : Int32)), .val (.int vi26), .unset, .unset, .unset, .unset, .unset] [(.int (p2.toInt8.toInt32))]))
    refine own_go (fun t_ k => XS.istore X0.here hx rfl (hb hby at_14) rfl (l' := #[.val (.int p1), .val (.int p2), .val (.int p3), .val (.int p4), .val (.int p5), .val (.int (2 : Int32)), .val (.int vi26), .val (.int (p2.toInt8.toInt32)), .unset, .unset, .unset, .unset]) rfl k) ?_
    show WP p e below _ (s₁.setTop (mkF m 16 #[.val (.int p1), .val (.int p2), .val (.int p3), .val (.int p4), .val (.int p5), .val (.int (2 : Int32)), .val (.int vi26), .val (.int (p2.toInt8.toInt32)), .unset, .unset, .unset, .unset] []))
    generalize he27 : (p2.toInt8.toInt32) = vi27
    show WP p e below _ (s₁.setTop (mkF m 16 #[.val (.int p1), .val (.int p2), .val (.int p3), .val (.int p4), .val (.int p5), .val (.int (2 : Int32)), .val (.int vi26), .val (.int vi27), .unset, .unset, .unset, .unset] []))
    refine own_go (fun t_ k => XS.iloadN X0.here hx rfl (hb hby at_16) rfl k) ?_
    show WP p e below _ (s₁.setTop (mkF m 17 #[.val (.int p1), .val (.int p2), .val (.int p3), .val (.int p4), .val (.int p5), .val (.int (2 : Int32)), .val (.int vi26), .val (.int vi27), .unset, .unset, .unset, .unset] [(.int p3)]))
    refine own_go (fun t_ k => XS.i2b X0.here hx rfl (hb hby at_17) rfl k) ?_
    show WP p e below _ (s₁.setTop (mkF m 18 #[.val (.int p1), .val (.int p2), .val (.int p3), .val (.int p4), .val (.int p5), .val (.int (2 : Int32)), .val (.int vi26), .val (.int vi27), .unset, .unset, .unset, .unset] [(.int (p3.toInt8.toInt32))]))
    refine own_go (fun t_ k => XS.istore X0.here hx rfl (hb hby at_18) rfl (l' := #[.val (.int p1), .val (.int p2), .val (.int p3), .val (.int p4), .val (.int p5), .val (.int (2 : Int32)), .val (.int vi26), .val (.int vi27), .val (.int (p3.toInt8.toInt32)), .unset, .unset, .unset]) rfl k) ?_
    show WP p e below _ (s₁.setTop (mkF m 20 #[.val (.int p1), .val (.int p2), .val (.int p3), .val (.int p4), .val (.int p5), .val (.int (2 : Int32)), .val (.int vi26), .val (.int vi27), .val (.int (p3.toInt8.toInt32)), .unset, .unset, .unset] []))
    generalize he28 : (p3.toInt8.toInt32) = vi28
    show WP p e below _ (s₁.setTop (mkF m 20 #[.val (.int p1), .val (.int p2), .val (.int p3), .val (.int p4), .val (.int p5), .val (.int (2 : Int32)), .val (.int vi26), .val (.int vi27), .val (.int vi28), .unset, .unset, .unset] []))
    refine own_go (fun t_ k => XS.iloadN X0.here hx rfl (hb hby at_20) rfl k) ?_
    show WP p e below _ (s₁.setTop (mkF m 21 #[.val (.int p1), .val (.int p2), .val (.int p3), .val (.int p4), .val (.int p5), .val (.int (2 : Int32)), .val (.int vi26), .val (.int vi27), .val (.int vi28), .unset, .unset, .unset] [(.int p4)]))
    refine own_go (fun t_ k => XS.i2b X0.here hx rfl (hb hby at_21) rfl k) ?_
    show WP p e below _ (s₁.setTop (mkF m 22 #[.val (.int p1), .val (.int p2), .val (.int p3), .val (.int p4), .val (.int p5), .val (.int (2 : Int32)), .val (.int vi26), .val (.int vi27), .val (.int vi28), .unset, .unset, .unset] [(.int (p4.toInt8.toInt32))]))
    refine own_go (fun t_ k => XS.istore X0.here hx rfl (hb hby at_22) rfl (l' := #[.val (.int p1), .val (.int p2), .val (.int p3), .val (.int p4), .val (.int p5), .val (.int (2 : Int32)), .val (.int vi26), .val (.int vi27), .val (.int vi28), .val (.int (p4.toInt8.toInt32)), .unset, .unset]) rfl k) ?_
    show WP p e below _ (s₁.setTop (mkF m 24 #[.val (.int p1), .val (.int p2), .val (.int p3), .val (.int p4), .val (.int p5), .val (.int (2 : Int32)), .val (.int vi26), .val (.int vi27), .val (.int vi28), .val (.int (p4.toInt8.toInt32)), .unset, .unset] []))
    generalize he29 : (p4.toInt8.toInt32) = vi29
    show WP p e below _ (s₁.setTop (mkF m 24 #[.val (.int p1), .val (.int p2), .val (.int p3), .val (.int p4), .val (.int p5), .val (.int (2 : Int32)), .val (.int vi26), .val (.int vi27), .val (.int vi28), .val (.int vi29), .unset, .unset] []))
    obtain ⟨T30, h30, X30, e30, E30, A30, D30, -, st30⟩ := newO X0 hx hZ hown (hw _ (List.mem_of_getElem? (i := 0) rfl)) (hw _ (List.mem_of_getElem? (i := 1) rfl)) (hw _ (List.mem_of_getElem? (i := 2) rfl)) e0 (g := (mkF m 24 #[.val (.int p1), .val (.int p2), .val (.int p3), .val (.int p4), .val (.int p5), .val (.int (2 : Int32)), .val (.int vi26), .val (.int vi27), .val (.int vi28), .val (.int vi29), .unset, .unset] [])) rfl (hb hby at_24) (by decide) (by decide)
    obtain ⟨b30, g30⟩ : ∃ z, z = Array.size h0 := ⟨_, rfl⟩
    rw [← g30] at A30 D30 st30
    refine own_go st30 ?_
    have g_b30 : n0 ≤ b30 := Nat.le_trans (Nat.le_trans Z0 (Keep.refl h0 []).1) (Nat.le_of_eq g30.symm)
    have sz_b30 : h0.size ≤ b30 := Nat.le_trans (Keep.refl h0 []).1 (Nat.le_of_eq g30.symm)
    have K30 : Keep h0 h30 [] := (Keep.refl h0 []).ext E30
    have F30_blocks : Fld Z h30 b30 "com/example/vestry/vestry/ByteBlocks" "blocks" "[[B" .null := D30 (Or.inl (hw _ (List.mem_of_getElem? (i := 12) rfl))) (ty := (.array (.array .byte))) (by decide)
    have F30_size : Fld Z h30 b30 "com/example/vestry/vestry/ByteBlocks" "size" "J" (.long (0 : Int64)) := D30 (Or.inl (hw _ (List.mem_of_getElem? (i := 19) rfl))) (ty := .long) (by decide)
    show WP p e below _ (T30.setTop (mkF m 27 #[.val (.int p1), .val (.int p2), .val (.int p3), .val (.int p4), .val (.int p5), .val (.int (2 : Int32)), .val (.int vi26), .val (.int vi27), .val (.int vi28), .val (.int vi29), .unset, .unset] [(.ref b30)]))
    refine own_go (fun t_ k => XS.dup X30.here hx rfl (hb hby at_27) rfl rfl k) ?_
    show WP p e below _ (T30.setTop (mkF m 28 #[.val (.int p1), .val (.int p2), .val (.int p3), .val (.int p4), .val (.int p5), .val (.int (2 : Int32)), .val (.int vi26), .val (.int vi27), .val (.int vi28), .val (.int vi29), .unset, .unset] [(.ref b30), (.ref b30)]))
    obtain ⟨_, _, ⟨T31, L31, k31, n31⟩, -, X31, ⟨Lc31, hQ31, l31, y31, z31⟩, st31⟩ := X30.specialBack hx (y := (⟨"com/example/vestry/vestry/ByteBlocks", "<init>", "()V"⟩ : MethodName)) rfl hown (mvT hZ (hw _ (List.mem_of_getElem? (i := 3) rfl))) (mvT hZ (hw _ (List.mem_of_getElem? (i := 4) rfl))) (mvT hZ (hw _ (List.mem_of_getElem? (i := 5) rfl))) (by decide) (backOf (W := 1) (rm_i l Z a0 hw [] b30 h30 n0 (Nat.le_trans Z0 K30.1) A30 g_b30 F30_blocks F30_size) hZ (hw _ (List.mem_of_getElem? (i := 5) rfl)) (hw _ (List.mem_of_getElem? (i := 2) rfl)) (by decide) (by decide)) (g := (mkF m 28 #[.val (.int p1), .val (.int p2), .val (.int p3), .val (.int p4), .val (.int p5), .val (.int (2 : Int32)), .val (.int vi26), .val (.int vi27), .val (.int vi28), .val (.int vi29), .unset, .unset] [(.ref b30), (.ref b30)])) rfl (by rw [hml]; rfl) (Steps.refl _) (a := b30) (argsL := []) (rest := [(.ref b30)]) (lenOf pd_0 rfl) rfl (by show 2 * 0 + _ ≤ _; exact Nat.le_of_eq rfl) (hb hby at_28) (fun _ _ => ⟨rfl, e30, (by decide : 1 + 1 ≤ _), (by decide : 2 + 1 ≤ _)⟩)
    dsimp only [Pt.U, Pt.locs, Pt.cells, Pt.slots] at X31 l31 y31 z31 st31 hQ31
    subst l31 y31 z31
    obtain ⟨rfl, N31q, K31c, t31, kk31, gt31, szt31', P31, O31⟩ := hQ31
    have N31 := Fr.app N0 N31q
    replace X31 : Stand p l e room_1 s m _ below meth c T31 _ 2 3 := X31
    refine own_go (fun t_ k => st31.trans k) ?_
    have K31 : Keep h0 T31.heap [] := K30.trans K31c (allS (Or.inr sz_b30) all0)
    have szt31 : h0.size ≤ t31 := Nat.le_trans K30.1 szt31'
    show WP p e below _ (T31.setTop (mkF m 31 #[.val (.int p1), .val (.int p2), .val (.int p3), .val (.int p4), .val (.int p5), .val (.int (2 : Int32)), .val (.int vi26), .val (.int vi27), .val (.int vi28), .val (.int vi29), .unset, .unset] [(.ref b30)]))
    refine own_go (fun t_ k => XS.astore X31.here hx rfl (hb hby at_31) rfl rfl (l' := #[.val (.int p1), .val (.int p2), .val (.int p3), .val (.int p4), .val (.int p5), .val (.int (2 : Int32)), .val (.int vi26), .val (.int vi27), .val (.int vi28), .val (.int vi29), .val (.ref b30), .unset]) rfl k) ?_
    show WP p e below _ (T31.setTop (mkF m 33 #[.val (.int p1), .val (.int p2), .val (.int p3), .val (.int p4), .val (.int p5), .val (.int (2 : Int32)), .val (.int vi26), .val (.int vi27), .val (.int vi28), .val (.int vi29), .val (.ref b30), .unset] []))
    refine own_go (fun t_ k => XS.aload X31.here hx rfl (hb hby at_33) rfl rfl k) ?_
    show WP p e below _ (T31.setTop (mkF m 35 #[.val (.int p1), .val (.int p2), .val (.int p3), .val (.int p4), .val (.int p5), .val (.int (2 : Int32)), .val (.int vi26), .val (.int vi27), .val (.int vi28), .val (.int vi29), .val (.ref b30), .unset] [(.ref b30)]))
    refine own_go (fun t_ k => XS.iload X31.here hx rfl (hb hby at_35) rfl k) ?_
    show WP p e below _ (T31.setTop (mkF m 37 #[.val (.int p1), .val (.int p2), .val (.int p3), .val (.int p4), .val (.int p5), .val (.int (2 : Int32)), .val (.int vi26), .val (.int vi27), .val (.int vi28), .val (.int vi29), .val (.ref b30), .unset] [(.int vi26), (.ref b30)]))
    obtain ⟨cq32, kq32, q32a, q32b, q32c⟩ := isOf (T := T31) hZ rfl P31.1
    obtain ⟨_, _, ⟨T32, L32, k32, n32⟩, -, X32, ⟨Lc32, hQ32, l32, y32, z32⟩, st32⟩ := X31.virtualBack hx (y := (⟨"com/example/vestry/vestry/ByteBlocks", "append", "(B)V"⟩ : MethodName)) (z := (⟨"com/example/vestry/vestry/ByteBlocks", "append", "(B)V"⟩ : MethodName)) hown (mvT hZ (hw _ (List.mem_of_getElem? (i := 13) rfl))) (mvT hZ (hw _ (List.mem_of_getElem? (i := 14) rfl))) (notFace_of_selects (args := #[]) (mvT hZ (hw _ (List.mem_of_getElem? (i := 16) rfl)))) (mvT hZ (hw _ (List.mem_of_getElem? (i := 16) rfl))) (mvT hZ (hw _ (List.mem_of_getElem? (i := 15) rfl))) (by decide) (backOf (W := 0) (rm_a0 l Z a0 hw [] b30 vi26 t31 kk31 T31.heap n0 (Nat.le_trans Z0 K31.1) P31 O31 g_b30 gt31) hZ (hw _ (List.mem_of_getElem? (i := 17) rfl)) (hw _ (List.mem_of_getElem? (i := 2) rfl)) (by decide) (by decide)) q32a q32c (g := (mkF m 37 #[.val (.int p1), .val (.int p2), .val (.int p3), .val (.int p4), .val (.int p5), .val (.int (2 : Int32)), .val (.int vi26), .val (.int vi27), .val (.int vi28), .val (.int vi29), .val (.ref b30), .unset] [(.int vi26), (.ref b30)])) rfl (by rw [hml]; rfl) (Steps.refl _) (argsL := [(.int vi26)]) (rest := []) (lenOf pd_1 rfl) rfl (by show 2 * 0 + _ ≤ _; exact Nat.le_of_eq rfl) (hb hby at_37) (fun _ _ => ⟨rfl, rfl, (by decide : 2 + 1 ≤ _), (by decide : 3 + 65536 ≤ _)⟩)
    dsimp only [Pt.U, Pt.locs, Pt.cells, Pt.slots] at X32 l32 y32 z32 st32 hQ32
    subst l32 y32 z32
    obtain ⟨rfl, N32q, K32c, b32, kb32, gb32, szb32', P32⟩ := hQ32
    have N32 := Fr.app N31 N32q
    replace X32 : Stand p l e room_1 s m _ below meth c T32 _ 3 65539 := X32
    refine own_go (fun t_ k => st32.trans k) ?_
    have K32 : Keep h0 T32.heap [] := K31.trans K32c (allS (Or.inr sz_b30) (allS (Or.inr szt31) all0))
    have szb32 : h0.size ≤ b32 := Nat.le_trans K31.1 szb32'
    replace P32 : BB Z T32.heap b30 t31 kk31 b32 kb32 (1 : Int64) [(vi26.toInt8.toInt32)] := P32
    show WP p e below _ (T32.setTop (mkF m 40 #[.val (.int p1), .val (.int p2), .val (.int p3), .val (.int p4), .val (.int p5), .val (.int (2 : Int32)), .val (.int vi26), .val (.int vi27), .val (.int vi28), .val (.int vi29), .val (.ref b30), .unset] []))
    refine own_go (fun t_ k => XS.aload X32.here hx rfl (hb hby at_40) rfl rfl k) ?_
    show WP p e below _ (T32.setTop (mkF m 42 #[.val (.int p1), .val (.int p2), .val (.int p3), .val (.int p4), .val (.int p5), .val (.int (2 : Int32)), .val (.int vi26), .val (.int vi27), .val (.int vi28), .val (.int vi29), .val (.ref b30), .unset] [(.ref b30)]))
    refine own_go (fun t_ k => XS.lconst X32.here hx rfl (hb hby at_42) k) ?_
    show WP p e below _ (T32.setTop (mkF m 43 #[.val (.int p1), .val (.int p2), .val (.int p3), .val (.int p4), .val (.int p5), .val (.int (2 : Int32)), .val (.int vi26), .val (.int vi27), .val (.int vi28), .val (.int vi29), .val (.ref b30), .unset] [(.long (0 : Int64)), (.ref b30)]))
    obtain ⟨cq33, kq33, q33a, q33b, q33c⟩ := isOf (T := T32) hZ rfl P32.1
    obtain ⟨_, _, ⟨T33, L33, k33, n33⟩, -, X33, ⟨Lc33, hQ33, l33, y33, z33⟩, st33⟩ := X32.virtualBack hx (y := (⟨"com/example/vestry/vestry/ByteBlocks", "at", "(J)B"⟩ : MethodName)) (z := (⟨"com/example/vestry/vestry/ByteBlocks", "at", "(J)B"⟩ : MethodName)) hown (mvT hZ (hw _ (List.mem_of_getElem? (i := 24) rfl))) (mvT hZ (hw _ (List.mem_of_getElem? (i := 25) rfl))) (notFace_of_selects (args := #[]) (mvT hZ (hw _ (List.mem_of_getElem? (i := 27) rfl)))) (mvT hZ (hw _ (List.mem_of_getElem? (i := 27) rfl))) (mvT hZ (hw _ (List.mem_of_getElem? (i := 26) rfl))) (by decide) (backOf (W := 0) (rm_at0 l Z a0 hw [] b30 (0 : Int64) t31 kk31 b32 kb32 (1 : Int64) [(vi26.toInt8.toInt32)] T32.heap n0 P32 rfl) hZ (hw _ (List.mem_of_getElem? (i := 28) rfl)) (hw _ (List.mem_of_getElem? (i := 2) rfl)) (by decide) (by decide)) q33a q33c (g := (mkF m 43 #[.val (.int p1), .val (.int p2), .val (.int p3), .val (.int p4), .val (.int p5), .val (.int (2 : Int32)), .val (.int vi26), .val (.int vi27), .val (.int vi28), .val (.int vi29), .val (.ref b30), .unset] [(.long (0 : Int64)), (.ref b30)])) rfl (by rw [hml]; rfl) (Steps.refl _) (argsL := [(.long (0 : Int64))]) (rest := []) (lenOf pd_2 rfl) rfl (by show 2 * 0 + _ ≤ _; exact Nat.le_of_eq rfl) (hb hby at_43) (fun _ _ => ⟨rfl, rfl, (by decide : 3 + 0 ≤ _), (by decide : 65539 + 0 ≤ _)⟩)
    dsimp only [Pt.U, Pt.locs, Pt.cells, Pt.slots] at X33 l33 y33 z33 st33 hQ33
    subst l33 y33 z33
    obtain ⟨rfl, N33q, e33⟩ := hQ33
    have N33 := Fr.app N32 N33q
    replace X33 : Stand p l e room_1 s m _ below meth c T33 _ 3 65539 := X33
    refine own_go (fun t_ k => st33.trans k) ?_
    show WP p e below _ (T33.setTop (mkF m 46 #[.val (.int p1), .val (.int p2), .val (.int p3), .val (.int p4), .val (.int p5), .val (.int (2 : Int32)), .val (.int vi26), .val (.int vi27), .val (.int vi28), .val (.int vi29), .val (.ref b30), .unset] [(.int ((vi26.toInt8.toInt32).toInt8.toInt32))]))
    generalize he34 : ((vi26.toInt8.toInt32).toInt8.toInt32) = vi34
    show WP p e below _ (T33.setTop (mkF m 46 #[.val (.int p1), .val (.int p2), .val (.int p3), .val (.int p4), .val (.int p5), .val (.int (2 : Int32)), .val (.int vi26), .val (.int vi27), .val (.int vi28), .val (.int vi29), .val (.ref b30), .unset] [(.int vi34)]))
    refine own_go (fun t_ k => XS.iload X33.here hx rfl (hb hby at_46) rfl k) ?_
    show WP p e below _ (T33.setTop (mkF m 48 #[.val (.int p1), .val (.int p2), .val (.int p3), .val (.int p4), .val (.int p5), .val (.int (2 : Int32)), .val (.int vi26), .val (.int vi27), .val (.int vi28), .val (.int vi29), .val (.ref b30), .unset] [(.int vi26), (.int vi34)]))
    have J37 : ∀ (T37 : State) (ls37 : List Loc) (X37 : Stand p l e room_1 s m #[(.int p1), (.int p2), (.int p3), (.int p4), (.int p5)] below meth c T37 ls37 3 65539) (N37 : Fr n0 ls37) (e37 : T37.heap = T32.heap) (z36_S0 : Int32) (hz36_S0 : z36_S0 = (if vi34 = vi26 then (1 : Int32) else (0 : Int32))), WP p e below (GG (Q0 n0) s room_1.cells room_1.slots) (T37.setTop (mkF m 56 #[.val (.int p1), .val (.int p2), .val (.int p3), .val (.int p4), .val (.int p5), .val (.int (2 : Int32)), .val (.int vi26), .val (.int vi27), .val (.int vi28), .val (.int vi29), .val (.ref b30), .unset] [(.int z36_S0)])) := by
      intro T37 ls37 X37 N37 e37 z36_S0 hz36_S0
      show WP p e below _ (T37.setTop (mkF m 56 #[.val (.int p1), .val (.int p2), .val (.int p3), .val (.int p4), .val (.int p5), .val (.int (2 : Int32)), .val (.int vi26), .val (.int vi27), .val (.int vi28), .val (.int vi29), .val (.ref b30), .unset] [(.int z36_S0)]))
      refine own_go (fun t_ k => XS.istore X37.here hx rfl (hb hby at_56) rfl (l' := #[.val (.int p1), .val (.int p2), .val (.int p3), .val (.int p4), .val (.int p5), .val (.int (2 : Int32)), .val (.int vi26), .val (.int vi27), .val (.int vi28), .val (.int vi29), .val (.ref b30), .val (.int z36_S0)]) rfl k) ?_
      show WP p e below _ (T37.setTop (mkF m 58 #[.val (.int p1), .val (.int p2), .val (.int p3), .val (.int p4), .val (.int p5), .val (.int (2 : Int32)), .val (.int vi26), .val (.int vi27), .val (.int vi28), .val (.int vi29), .val (.ref b30), .val (.int z36_S0)] []))
      refine own_go (fun t_ k => XS.iload X37.here hx rfl (hb hby at_58) rfl k) ?_
      show WP p e below _ (T37.setTop (mkF m 60 #[.val (.int p1), .val (.int p2), .val (.int p3), .val (.int p4), .val (.int p5), .val (.int (2 : Int32)), .val (.int vi26), .val (.int vi27), .val (.int vi28), .val (.int vi29), .val (.ref b30), .val (.int z36_S0)] [(.int (2 : Int32))]))
      refine own_go (fun t_ k => XS.iconst X37.here hx rfl (hb hby at_60) k) ?_
      show WP p e below _ (T37.setTop (mkF m 61 #[.val (.int p1), .val (.int p2), .val (.int p3), .val (.int p4), .val (.int p5), .val (.int (2 : Int32)), .val (.int vi26), .val (.int vi27), .val (.int vi28), .val (.int vi29), .val (.ref b30), .val (.int z36_S0)] [(.int (1 : Int32)), (.int (2 : Int32))]))
      have hc61_38 : ((1 : Int32) < (2 : Int32)) := by decide
      refine own_go (fun t_ k => XS.icmpNo X37.here hx rfl (hb hby at_61) rfl (tlt hc61_38).2.2.2 k) ?_
      show WP p e below _ (T37.setTop (mkF m 64 #[.val (.int p1), .val (.int p2), .val (.int p3), .val (.int p4), .val (.int p5), .val (.int (2 : Int32)), .val (.int vi26), .val (.int vi27), .val (.int vi28), .val (.int vi29), .val (.ref b30), .val (.int z36_S0)] []))
      refine own_go (fun t_ k => XS.aload X37.here hx rfl (hb hby at_64) rfl rfl k) ?_
      show WP p e below _ (T37.setTop (mkF m 66 #[.val (.int p1), .val (.int p2), .val (.int p3), .val (.int p4), .val (.int p5), .val (.int (2 : Int32)), .val (.int vi26), .val (.int vi27), .val (.int vi28), .val (.int vi29), .val (.ref b30), .val (.int z36_S0)] [(.ref b30)]))
      refine own_go (fun t_ k => XS.iload X37.here hx rfl (hb hby at_66) rfl k) ?_
      show WP p e below _ (T37.setTop (mkF m 68 #[.val (.int p1), .val (.int p2), .val (.int p3), .val (.int p4), .val (.int p5), .val (.int (2 : Int32)), .val (.int vi26), .val (.int vi27), .val (.int vi28), .val (.int vi29), .val (.ref b30), .val (.int z36_S0)] [(.int vi27), (.ref b30)]))
      obtain ⟨cq39, kq39, q39a, q39b, q39c⟩ := isOf (T := T37) hZ e37 P32.1
      obtain ⟨_, _, ⟨T39, L39, k39, n39⟩, -, X39, ⟨Lc39, hQ39, l39, y39, z39⟩, st39⟩ := X37.virtualBack hx (y := (⟨"com/example/vestry/vestry/ByteBlocks", "append", "(B)V"⟩ : MethodName)) (z := (⟨"com/example/vestry/vestry/ByteBlocks", "append", "(B)V"⟩ : MethodName)) hown (mvT hZ (hw _ (List.mem_of_getElem? (i := 13) rfl))) (mvT hZ (hw _ (List.mem_of_getElem? (i := 14) rfl))) (notFace_of_selects (args := #[]) (mvT hZ (hw _ (List.mem_of_getElem? (i := 16) rfl)))) (mvT hZ (hw _ (List.mem_of_getElem? (i := 16) rfl))) (mvT hZ (hw _ (List.mem_of_getElem? (i := 15) rfl))) (by decide) (backOf (W := 0) (rm_a1 l Z a0 hw [] b30 vi27 t31 kk31 b32 kb32 [(vi26.toInt8.toInt32)] T32.heap n0 P32 rfl g_b30 gb32) hZ (hw _ (List.mem_of_getElem? (i := 17) rfl)) (hw _ (List.mem_of_getElem? (i := 2) rfl)) (by decide) (by decide)) q39a q39c (g := (mkF m 68 #[.val (.int p1), .val (.int p2), .val (.int p3), .val (.int p4), .val (.int p5), .val (.int (2 : Int32)), .val (.int vi26), .val (.int vi27), .val (.int vi28), .val (.int vi29), .val (.ref b30), .val (.int z36_S0)] [(.int vi27), (.ref b30)])) rfl (by rw [hml]; rfl) (Steps.refl _) (argsL := [(.int vi27)]) (rest := []) (lenOf pd_1 rfl) rfl (by show 2 * 0 + _ ≤ _; exact Nat.le_of_eq rfl) (hb hby at_68) (fun _ _ => ⟨rfl, e37, (by decide : 3 + 0 ≤ _), (by decide : 65539 + 0 ≤ _)⟩)
      dsimp only [Pt.U, Pt.locs, Pt.cells, Pt.slots] at X39 l39 y39 z39 st39 hQ39
      subst l39 y39 z39
      obtain ⟨rfl, N39q, K39c, P39⟩ := hQ39
      have N39 := Fr.app N37 N39q
      replace X39 : Stand p l e room_1 s m _ below meth c T39 _ 3 65539 := X39
      refine own_go (fun t_ k => st39.trans k) ?_
      have K39 : Keep h0 T39.heap [] := K32.trans K39c (allS (Or.inr sz_b30) (allS (Or.inr szb32) all0))
      replace P39 : BB Z T39.heap b30 t31 kk31 b32 kb32 (2 : Int64) [(vi26.toInt8.toInt32), (vi27.toInt8.toInt32)] := P39
      show WP p e below _ (T39.setTop (mkF m 71 #[.val (.int p1), .val (.int p2), .val (.int p3), .val (.int p4), .val (.int p5), .val (.int (2 : Int32)), .val (.int vi26), .val (.int vi27), .val (.int vi28), .val (.int vi29), .val (.ref b30), .val (.int z36_S0)] []))
      refine own_go (fun t_ k => XS.iload X39.here hx rfl (hb hby at_71) rfl k) ?_
      show WP p e below _ (T39.setTop (mkF m 73 #[.val (.int p1), .val (.int p2), .val (.int p3), .val (.int p4), .val (.int p5), .val (.int (2 : Int32)), .val (.int vi26), .val (.int vi27), .val (.int vi28), .val (.int vi29), .val (.ref b30), .val (.int z36_S0)] [(.int (2 : Int32))]))
      refine own_go (fun t_ k => XS.iconst X39.here hx rfl (hb hby at_73) k) ?_
      show WP p e below _ (T39.setTop (mkF m 74 #[.val (.int p1), .val (.int p2), .val (.int p3), .val (.int p4), .val (.int p5), .val (.int (2 : Int32)), .val (.int vi26), .val (.int vi27), .val (.int vi28), .val (.int vi29), .val (.ref b30), .val (.int z36_S0)] [(.int (2 : Int32)), (.int (2 : Int32))]))
      have hc74_40 : ¬ ((2 : Int32) < (2 : Int32)) := by decide
      refine own_go (fun t_ k => XS.icmpYes X39.here hx rfl (pc0 := 74) (pc' := 84) rfl (hb hby at_74) rfl (flt hc74_40).2.2.2 (by decide) (by decide) k) ?_
      show WP p e below _ (T39.setTop (mkF m 84 #[.val (.int p1), .val (.int p2), .val (.int p3), .val (.int p4), .val (.int p5), .val (.int (2 : Int32)), .val (.int vi26), .val (.int vi27), .val (.int vi28), .val (.int vi29), .val (.ref b30), .val (.int z36_S0)] []))
      refine own_go (fun t_ k => XS.iload X39.here hx rfl (hb hby at_84) rfl k) ?_
      show WP p e below _ (T39.setTop (mkF m 86 #[.val (.int p1), .val (.int p2), .val (.int p3), .val (.int p4), .val (.int p5), .val (.int (2 : Int32)), .val (.int vi26), .val (.int vi27), .val (.int vi28), .val (.int vi29), .val (.ref b30), .val (.int z36_S0)] [(.int (2 : Int32))]))
      refine own_go (fun t_ k => XS.iconst X39.here hx rfl (hb hby at_86) k) ?_
      show WP p e below _ (T39.setTop (mkF m 87 #[.val (.int p1), .val (.int p2), .val (.int p3), .val (.int p4), .val (.int p5), .val (.int (2 : Int32)), .val (.int vi26), .val (.int vi27), .val (.int vi28), .val (.int vi29), .val (.ref b30), .val (.int z36_S0)] [(.int (3 : Int32)), (.int (2 : Int32))]))
      have hc87_41 : ¬ ((3 : Int32) < (2 : Int32)) := by decide
      refine own_go (fun t_ k => XS.icmpYes X39.here hx rfl (pc0 := 87) (pc' := 97) rfl (hb hby at_87) rfl (flt hc87_41).2.2.2 (by decide) (by decide) k) ?_
      show WP p e below _ (T39.setTop (mkF m 97 #[.val (.int p1), .val (.int p2), .val (.int p3), .val (.int p4), .val (.int p5), .val (.int (2 : Int32)), .val (.int vi26), .val (.int vi27), .val (.int vi28), .val (.int vi29), .val (.ref b30), .val (.int z36_S0)] []))
      refine own_go (fun t_ k => XS.iload X39.here hx rfl (hb hby at_97) rfl k) ?_
      show WP p e below _ (T39.setTop (mkF m 99 #[.val (.int p1), .val (.int p2), .val (.int p3), .val (.int p4), .val (.int p5), .val (.int (2 : Int32)), .val (.int vi26), .val (.int vi27), .val (.int vi28), .val (.int vi29), .val (.ref b30), .val (.int z36_S0)] [(.int z36_S0)]))
      have J44 : ∀ (T44 : State) (ls44 : List Loc) (X44 : Stand p l e room_1 s m #[(.int p1), (.int p2), (.int p3), (.int p4), (.int p5)] below meth c T44 ls44 3 65539) (N44 : Fr n0 ls44) (e44 : T44.heap = T39.heap) (z43_S0 : Int32) (hz43_S0 : z43_S0 = (if z36_S0 = (0 : Int32) then (0 : Int32) else (if ((vi26.toInt8.toInt32).toInt8.toInt32) = vi26 then (1 : Int32) else (0 : Int32)))), WP p e below (GG (Q0 n0) s room_1.cells room_1.slots) (T44.setTop (mkF m 118 #[.val (.int p1), .val (.int p2), .val (.int p3), .val (.int p4), .val (.int p5), .val (.int (2 : Int32)), .val (.int vi26), .val (.int vi27), .val (.int vi28), .val (.int vi29), .val (.ref b30), .val (.int z36_S0)] [(.int z43_S0)])) := by
        intro T44 ls44 X44 N44 e44 z43_S0 hz43_S0
        show WP p e below _ (T44.setTop (mkF m 118 #[.val (.int p1), .val (.int p2), .val (.int p3), .val (.int p4), .val (.int p5), .val (.int (2 : Int32)), .val (.int vi26), .val (.int vi27), .val (.int vi28), .val (.int vi29), .val (.ref b30), .val (.int z36_S0)] [(.int z43_S0)]))
        refine own_go (fun t_ k => XS.istore X44.here hx rfl (hb hby at_118) rfl (l' := #[.val (.int p1), .val (.int p2), .val (.int p3), .val (.int p4), .val (.int p5), .val (.int (2 : Int32)), .val (.int vi26), .val (.int vi27), .val (.int vi28), .val (.int vi29), .val (.ref b30), .val (.int z43_S0)]) rfl k) ?_
        show WP p e below _ (T44.setTop (mkF m 120 #[.val (.int p1), .val (.int p2), .val (.int p3), .val (.int p4), .val (.int p5), .val (.int (2 : Int32)), .val (.int vi26), .val (.int vi27), .val (.int vi28), .val (.int vi29), .val (.ref b30), .val (.int z43_S0)] []))
        refine own_go (fun t_ k => XS.iload X44.here hx rfl (hb hby at_120) rfl k) ?_
        show WP p e below _ (T44.setTop (mkF m 122 #[.val (.int p1), .val (.int p2), .val (.int p3), .val (.int p4), .val (.int p5), .val (.int (2 : Int32)), .val (.int vi26), .val (.int vi27), .val (.int vi28), .val (.int vi29), .val (.ref b30), .val (.int z43_S0)] [(.int (2 : Int32))]))
        refine own_go (fun t_ k => XS.iconst X44.here hx rfl (hb hby at_122) k) ?_
        show WP p e below _ (T44.setTop (mkF m 123 #[.val (.int p1), .val (.int p2), .val (.int p3), .val (.int p4), .val (.int p5), .val (.int (2 : Int32)), .val (.int vi26), .val (.int vi27), .val (.int vi28), .val (.int vi29), .val (.ref b30), .val (.int z43_S0)] [(.int (1 : Int32)), (.int (2 : Int32))]))
        have hc123_45 : ((1 : Int32) < (2 : Int32)) := by decide
        refine own_go (fun t_ k => XS.icmpNo X44.here hx rfl (hb hby at_123) rfl (tlt hc123_45).2.2.2 k) ?_
        show WP p e below _ (T44.setTop (mkF m 126 #[.val (.int p1), .val (.int p2), .val (.int p3), .val (.int p4), .val (.int p5), .val (.int (2 : Int32)), .val (.int vi26), .val (.int vi27), .val (.int vi28), .val (.int vi29), .val (.ref b30), .val (.int z43_S0)] []))
        refine own_go (fun t_ k => XS.iload X44.here hx rfl (hb hby at_126) rfl k) ?_
        show WP p e below _ (T44.setTop (mkF m 128 #[.val (.int p1), .val (.int p2), .val (.int p3), .val (.int p4), .val (.int p5), .val (.int (2 : Int32)), .val (.int vi26), .val (.int vi27), .val (.int vi28), .val (.int vi29), .val (.ref b30), .val (.int z43_S0)] [(.int z43_S0)]))
        have J48 : ∀ (T48 : State) (ls48 : List Loc) (X48 : Stand p l e room_1 s m #[(.int p1), (.int p2), (.int p3), (.int p4), (.int p5)] below meth c T48 ls48 3 65539) (N48 : Fr n0 ls48) (e48 : T48.heap = T39.heap) (z47_S0 : Int32) (hz47_S0 : z47_S0 = (if z43_S0 = (0 : Int32) then (0 : Int32) else (if ((vi27.toInt8.toInt32).toInt8.toInt32) = vi27 then (1 : Int32) else (0 : Int32)))), WP p e below (GG (Q0 n0) s room_1.cells room_1.slots) (T48.setTop (mkF m 147 #[.val (.int p1), .val (.int p2), .val (.int p3), .val (.int p4), .val (.int p5), .val (.int (2 : Int32)), .val (.int vi26), .val (.int vi27), .val (.int vi28), .val (.int vi29), .val (.ref b30), .val (.int z43_S0)] [(.int z47_S0)])) := by
          intro T48 ls48 X48 N48 e48 z47_S0 hz47_S0
          show WP p e below _ (T48.setTop (mkF m 147 #[.val (.int p1), .val (.int p2), .val (.int p3), .val (.int p4), .val (.int p5), .val (.int (2 : Int32)), .val (.int vi26), .val (.int vi27), .val (.int vi28), .val (.int vi29), .val (.ref b30), .val (.int z43_S0)] [(.int z47_S0)]))
          refine own_go (fun t_ k => XS.istore X48.here hx rfl (hb hby at_147) rfl (l' := #[.val (.int p1), .val (.int p2), .val (.int p3), .val (.int p4), .val (.int p5), .val (.int (2 : Int32)), .val (.int vi26), .val (.int vi27), .val (.int vi28), .val (.int vi29), .val (.ref b30), .val (.int z47_S0)]) rfl k) ?_
          show WP p e below _ (T48.setTop (mkF m 149 #[.val (.int p1), .val (.int p2), .val (.int p3), .val (.int p4), .val (.int p5), .val (.int (2 : Int32)), .val (.int vi26), .val (.int vi27), .val (.int vi28), .val (.int vi29), .val (.ref b30), .val (.int z47_S0)] []))
          refine own_go (fun t_ k => XS.iload X48.here hx rfl (hb hby at_149) rfl k) ?_
          show WP p e below _ (T48.setTop (mkF m 151 #[.val (.int p1), .val (.int p2), .val (.int p3), .val (.int p4), .val (.int p5), .val (.int (2 : Int32)), .val (.int vi26), .val (.int vi27), .val (.int vi28), .val (.int vi29), .val (.ref b30), .val (.int z47_S0)] [(.int (2 : Int32))]))
          refine own_go (fun t_ k => XS.iconst X48.here hx rfl (hb hby at_151) k) ?_
          show WP p e below _ (T48.setTop (mkF m 152 #[.val (.int p1), .val (.int p2), .val (.int p3), .val (.int p4), .val (.int p5), .val (.int (2 : Int32)), .val (.int vi26), .val (.int vi27), .val (.int vi28), .val (.int vi29), .val (.ref b30), .val (.int z47_S0)] [(.int (2 : Int32)), (.int (2 : Int32))]))
          have hc152_49 : ¬ ((2 : Int32) < (2 : Int32)) := by decide
          refine own_go (fun t_ k => XS.icmpYes X48.here hx rfl (pc0 := 152) (pc' := 180) rfl (hb hby at_152) rfl (flt hc152_49).2.2.2 (by decide) (by decide) k) ?_
          show WP p e below _ (T48.setTop (mkF m 180 #[.val (.int p1), .val (.int p2), .val (.int p3), .val (.int p4), .val (.int p5), .val (.int (2 : Int32)), .val (.int vi26), .val (.int vi27), .val (.int vi28), .val (.int vi29), .val (.ref b30), .val (.int z47_S0)] []))
          refine own_go (fun t_ k => XS.iload X48.here hx rfl (hb hby at_180) rfl k) ?_
          show WP p e below _ (T48.setTop (mkF m 182 #[.val (.int p1), .val (.int p2), .val (.int p3), .val (.int p4), .val (.int p5), .val (.int (2 : Int32)), .val (.int vi26), .val (.int vi27), .val (.int vi28), .val (.int vi29), .val (.ref b30), .val (.int z47_S0)] [(.int (2 : Int32))]))
          refine own_go (fun t_ k => XS.iconst X48.here hx rfl (hb hby at_182) k) ?_
          show WP p e below _ (T48.setTop (mkF m 183 #[.val (.int p1), .val (.int p2), .val (.int p3), .val (.int p4), .val (.int p5), .val (.int (2 : Int32)), .val (.int vi26), .val (.int vi27), .val (.int vi28), .val (.int vi29), .val (.ref b30), .val (.int z47_S0)] [(.int (3 : Int32)), (.int (2 : Int32))]))
          have hc183_50 : ¬ ((3 : Int32) < (2 : Int32)) := by decide
          refine own_go (fun t_ k => XS.icmpYes X48.here hx rfl (pc0 := 183) (pc' := 211) rfl (hb hby at_183) rfl (flt hc183_50).2.2.2 (by decide) (by decide) k) ?_
          show WP p e below _ (T48.setTop (mkF m 211 #[.val (.int p1), .val (.int p2), .val (.int p3), .val (.int p4), .val (.int p5), .val (.int (2 : Int32)), .val (.int vi26), .val (.int vi27), .val (.int vi28), .val (.int vi29), .val (.ref b30), .val (.int z47_S0)] []))
          refine own_go (fun t_ k => XS.iload X48.here hx rfl (hb hby at_211) rfl k) ?_
          show WP p e below _ (T48.setTop (mkF m 213 #[.val (.int p1), .val (.int p2), .val (.int p3), .val (.int p4), .val (.int p5), .val (.int (2 : Int32)), .val (.int vi26), .val (.int vi27), .val (.int vi28), .val (.int vi29), .val (.ref b30), .val (.int z47_S0)] [(.int z47_S0)]))
          exact own_retZ X48 hx Bd.notSynchronized Bd.returns (hb hby at_213) (by rw [hz47_S0]; (repeat' split); all_goals first | exact Or.inl rfl | exact Or.inr rfl) (show Q0 n0 _ _ _ from ⟨congrArg (fun z => some (Value.int z)) (own_law_2 (p1 := p1) (p2 := p2) (p3 := p3) (p4 := p4) (p5 := p5) he1 he26 he27 he28 he29 he34 hz36_S0 hz43_S0 hz47_S0), N48⟩) (by decide) (by decide)
        by_cases hc128_46 : z43_S0 = (0 : Int32)
        · refine own_go (fun t_ k => XS.ifYes X44.here hx rfl (pc0 := 128) (pc' := 146) rfl (hb hby at_128) rfl ((if0 _ _).trans (teq hc128_46).1) (by decide) (by decide) k) ?_
          show WP p e below _ (T44.setTop (mkF m 146 #[.val (.int p1), .val (.int p2), .val (.int p3), .val (.int p4), .val (.int p5), .val (.int (2 : Int32)), .val (.int vi26), .val (.int vi27), .val (.int vi28), .val (.int vi29), .val (.ref b30), .val (.int z43_S0)] []))
          refine own_go (fun t_ k => XS.iconst X44.here hx rfl (hb hby at_146) k) ?_
          show WP p e below _ (T44.setTop (mkF m 147 #[.val (.int p1), .val (.int p2), .val (.int p3), .val (.int p4), .val (.int p5), .val (.int (2 : Int32)), .val (.int vi26), .val (.int vi27), .val (.int vi28), .val (.int vi29), .val (.ref b30), .val (.int z43_S0)] [(.int (0 : Int32))]))
          exact J48 T44 _ X44 N44 e44 _ (by rw [if_pos hc128_46])
        · refine own_go (fun t_ k => XS.ifNo X44.here hx rfl (hb hby at_128) rfl ((if0 _ _).trans (feq hc128_46).1) k) ?_
          show WP p e below _ (T44.setTop (mkF m 131 #[.val (.int p1), .val (.int p2), .val (.int p3), .val (.int p4), .val (.int p5), .val (.int (2 : Int32)), .val (.int vi26), .val (.int vi27), .val (.int vi28), .val (.int vi29), .val (.ref b30), .val (.int z43_S0)] []))
          refine own_go (fun t_ k => XS.aload X44.here hx rfl (hb hby at_131) rfl rfl k) ?_
          show WP p e below _ (T44.setTop (mkF m 133 #[.val (.int p1), .val (.int p2), .val (.int p3), .val (.int p4), .val (.int p5), .val (.int (2 : Int32)), .val (.int vi26), .val (.int vi27), .val (.int vi28), .val (.int vi29), .val (.ref b30), .val (.int z43_S0)] [(.ref b30)]))
          refine own_go (fun t_ k => XS.lconst X44.here hx rfl (hb hby at_133) k) ?_
          show WP p e below _ (T44.setTop (mkF m 134 #[.val (.int p1), .val (.int p2), .val (.int p3), .val (.int p4), .val (.int p5), .val (.int (2 : Int32)), .val (.int vi26), .val (.int vi27), .val (.int vi28), .val (.int vi29), .val (.ref b30), .val (.int z43_S0)] [(.long (1 : Int64)), (.ref b30)]))
          obtain ⟨cq51, kq51, q51a, q51b, q51c⟩ := isOf (T := T44) hZ e44 P39.1
          obtain ⟨_, _, ⟨T51, L51, k51, n51⟩, -, X51, ⟨Lc51, hQ51, l51, y51, z51⟩, st51⟩ := X44.virtualBack hx (y := (⟨"com/example/vestry/vestry/ByteBlocks", "at", "(J)B"⟩ : MethodName)) (z := (⟨"com/example/vestry/vestry/ByteBlocks", "at", "(J)B"⟩ : MethodName)) hown (mvT hZ (hw _ (List.mem_of_getElem? (i := 24) rfl))) (mvT hZ (hw _ (List.mem_of_getElem? (i := 25) rfl))) (notFace_of_selects (args := #[]) (mvT hZ (hw _ (List.mem_of_getElem? (i := 27) rfl)))) (mvT hZ (hw _ (List.mem_of_getElem? (i := 27) rfl))) (mvT hZ (hw _ (List.mem_of_getElem? (i := 26) rfl))) (by decide) (backOf (W := 0) (rm_at1 l Z a0 hw [] b30 (1 : Int64) t31 kk31 b32 kb32 (2 : Int64) [(vi26.toInt8.toInt32), (vi27.toInt8.toInt32)] T39.heap n0 P39 rfl) hZ (hw _ (List.mem_of_getElem? (i := 28) rfl)) (hw _ (List.mem_of_getElem? (i := 2) rfl)) (by decide) (by decide)) q51a q51c (g := (mkF m 134 #[.val (.int p1), .val (.int p2), .val (.int p3), .val (.int p4), .val (.int p5), .val (.int (2 : Int32)), .val (.int vi26), .val (.int vi27), .val (.int vi28), .val (.int vi29), .val (.ref b30), .val (.int z43_S0)] [(.long (1 : Int64)), (.ref b30)])) rfl (by rw [hml]; rfl) (Steps.refl _) (argsL := [(.long (1 : Int64))]) (rest := []) (lenOf pd_2 rfl) rfl (by show 2 * 0 + _ ≤ _; exact Nat.le_of_eq rfl) (hb hby at_134) (fun _ _ => ⟨rfl, e44, (by decide : 3 + 0 ≤ _), (by decide : 65539 + 0 ≤ _)⟩)
          dsimp only [Pt.U, Pt.locs, Pt.cells, Pt.slots] at X51 l51 y51 z51 st51 hQ51
          subst l51 y51 z51
          obtain ⟨rfl, N51q, e51⟩ := hQ51
          have N51 := Fr.app N44 N51q
          replace X51 : Stand p l e room_1 s m _ below meth c T51 _ 3 65539 := X51
          refine own_go (fun t_ k => st51.trans k) ?_
          show WP p e below _ (T51.setTop (mkF m 137 #[.val (.int p1), .val (.int p2), .val (.int p3), .val (.int p4), .val (.int p5), .val (.int (2 : Int32)), .val (.int vi26), .val (.int vi27), .val (.int vi28), .val (.int vi29), .val (.ref b30), .val (.int z43_S0)] [(.int ((vi27.toInt8.toInt32).toInt8.toInt32))]))
          refine own_go (fun t_ k => XS.iload X51.here hx rfl (hb hby at_137) rfl k) ?_
          show WP p e below _ (T51.setTop (mkF m 139 #[.val (.int p1), .val (.int p2), .val (.int p3), .val (.int p4), .val (.int p5), .val (.int (2 : Int32)), .val (.int vi26), .val (.int vi27), .val (.int vi28), .val (.int vi29), .val (.ref b30), .val (.int z43_S0)] [(.int vi27), (.int ((vi27.toInt8.toInt32).toInt8.toInt32))]))
          by_cases hc139_52 : ((vi27.toInt8.toInt32).toInt8.toInt32) = vi27
          · refine own_go (fun t_ k => XS.icmpNo X51.here hx rfl (hb hby at_139) rfl (teq hc139_52).2 k) ?_
            show WP p e below _ (T51.setTop (mkF m 142 #[.val (.int p1), .val (.int p2), .val (.int p3), .val (.int p4), .val (.int p5), .val (.int (2 : Int32)), .val (.int vi26), .val (.int vi27), .val (.int vi28), .val (.int vi29), .val (.ref b30), .val (.int z43_S0)] []))
            refine own_go (fun t_ k => XS.iconst X51.here hx rfl (hb hby at_142) k) ?_
            show WP p e below _ (T51.setTop (mkF m 143 #[.val (.int p1), .val (.int p2), .val (.int p3), .val (.int p4), .val (.int p5), .val (.int (2 : Int32)), .val (.int vi26), .val (.int vi27), .val (.int vi28), .val (.int vi29), .val (.ref b30), .val (.int z43_S0)] [(.int (1 : Int32))]))
            refine own_go (fun t_ k => XS.goto X51.here hx rfl (pc0 := 143) (pc' := 147) rfl (hb hby at_143) (by decide) (by decide) k) ?_
            show WP p e below _ (T51.setTop (mkF m 147 #[.val (.int p1), .val (.int p2), .val (.int p3), .val (.int p4), .val (.int p5), .val (.int (2 : Int32)), .val (.int vi26), .val (.int vi27), .val (.int vi28), .val (.int vi29), .val (.ref b30), .val (.int z43_S0)] [(.int (1 : Int32))]))
            exact J48 T51 _ X51 N51 e51 _ (by rw [if_neg hc128_46, if_pos hc139_52])
          · refine own_go (fun t_ k => XS.icmpYes X51.here hx rfl (pc0 := 139) (pc' := 146) rfl (hb hby at_139) rfl (feq hc139_52).2 (by decide) (by decide) k) ?_
            show WP p e below _ (T51.setTop (mkF m 146 #[.val (.int p1), .val (.int p2), .val (.int p3), .val (.int p4), .val (.int p5), .val (.int (2 : Int32)), .val (.int vi26), .val (.int vi27), .val (.int vi28), .val (.int vi29), .val (.ref b30), .val (.int z43_S0)] []))
            refine own_go (fun t_ k => XS.iconst X51.here hx rfl (hb hby at_146) k) ?_
            show WP p e below _ (T51.setTop (mkF m 147 #[.val (.int p1), .val (.int p2), .val (.int p3), .val (.int p4), .val (.int p5), .val (.int (2 : Int32)), .val (.int vi26), .val (.int vi27), .val (.int vi28), .val (.int vi29), .val (.ref b30), .val (.int z43_S0)] [(.int (0 : Int32))]))
            exact J48 T51 _ X51 N51 e51 _ (by rw [if_neg hc128_46, if_neg hc139_52])
      by_cases hc99_42 : z36_S0 = (0 : Int32)
      · refine own_go (fun t_ k => XS.ifYes X39.here hx rfl (pc0 := 99) (pc' := 117) rfl (hb hby at_99) rfl ((if0 _ _).trans (teq hc99_42).1) (by decide) (by decide) k) ?_
        show WP p e below _ (T39.setTop (mkF m 117 #[.val (.int p1), .val (.int p2), .val (.int p3), .val (.int p4), .val (.int p5), .val (.int (2 : Int32)), .val (.int vi26), .val (.int vi27), .val (.int vi28), .val (.int vi29), .val (.ref b30), .val (.int z36_S0)] []))
        refine own_go (fun t_ k => XS.iconst X39.here hx rfl (hb hby at_117) k) ?_
        show WP p e below _ (T39.setTop (mkF m 118 #[.val (.int p1), .val (.int p2), .val (.int p3), .val (.int p4), .val (.int p5), .val (.int (2 : Int32)), .val (.int vi26), .val (.int vi27), .val (.int vi28), .val (.int vi29), .val (.ref b30), .val (.int z36_S0)] [(.int (0 : Int32))]))
        exact J44 T39 _ X39 N39 rfl _ (by rw [if_pos hc99_42])
      · refine own_go (fun t_ k => XS.ifNo X39.here hx rfl (hb hby at_99) rfl ((if0 _ _).trans (feq hc99_42).1) k) ?_
        show WP p e below _ (T39.setTop (mkF m 102 #[.val (.int p1), .val (.int p2), .val (.int p3), .val (.int p4), .val (.int p5), .val (.int (2 : Int32)), .val (.int vi26), .val (.int vi27), .val (.int vi28), .val (.int vi29), .val (.ref b30), .val (.int z36_S0)] []))
        refine own_go (fun t_ k => XS.aload X39.here hx rfl (hb hby at_102) rfl rfl k) ?_
        show WP p e below _ (T39.setTop (mkF m 104 #[.val (.int p1), .val (.int p2), .val (.int p3), .val (.int p4), .val (.int p5), .val (.int (2 : Int32)), .val (.int vi26), .val (.int vi27), .val (.int vi28), .val (.int vi29), .val (.ref b30), .val (.int z36_S0)] [(.ref b30)]))
        refine own_go (fun t_ k => XS.lconst X39.here hx rfl (hb hby at_104) k) ?_
        show WP p e below _ (T39.setTop (mkF m 105 #[.val (.int p1), .val (.int p2), .val (.int p3), .val (.int p4), .val (.int p5), .val (.int (2 : Int32)), .val (.int vi26), .val (.int vi27), .val (.int vi28), .val (.int vi29), .val (.ref b30), .val (.int z36_S0)] [(.long (0 : Int64)), (.ref b30)]))
        obtain ⟨cq53, kq53, q53a, q53b, q53c⟩ := isOf (T := T39) hZ rfl P39.1
        obtain ⟨_, _, ⟨T53, L53, k53, n53⟩, -, X53, ⟨Lc53, hQ53, l53, y53, z53⟩, st53⟩ := X39.virtualBack hx (y := (⟨"com/example/vestry/vestry/ByteBlocks", "at", "(J)B"⟩ : MethodName)) (z := (⟨"com/example/vestry/vestry/ByteBlocks", "at", "(J)B"⟩ : MethodName)) hown (mvT hZ (hw _ (List.mem_of_getElem? (i := 24) rfl))) (mvT hZ (hw _ (List.mem_of_getElem? (i := 25) rfl))) (notFace_of_selects (args := #[]) (mvT hZ (hw _ (List.mem_of_getElem? (i := 27) rfl)))) (mvT hZ (hw _ (List.mem_of_getElem? (i := 27) rfl))) (mvT hZ (hw _ (List.mem_of_getElem? (i := 26) rfl))) (by decide) (backOf (W := 0) (rm_at0 l Z a0 hw [] b30 (0 : Int64) t31 kk31 b32 kb32 (2 : Int64) [(vi26.toInt8.toInt32), (vi27.toInt8.toInt32)] T39.heap n0 P39 rfl) hZ (hw _ (List.mem_of_getElem? (i := 28) rfl)) (hw _ (List.mem_of_getElem? (i := 2) rfl)) (by decide) (by decide)) q53a q53c (g := (mkF m 105 #[.val (.int p1), .val (.int p2), .val (.int p3), .val (.int p4), .val (.int p5), .val (.int (2 : Int32)), .val (.int vi26), .val (.int vi27), .val (.int vi28), .val (.int vi29), .val (.ref b30), .val (.int z36_S0)] [(.long (0 : Int64)), (.ref b30)])) rfl (by rw [hml]; rfl) (Steps.refl _) (argsL := [(.long (0 : Int64))]) (rest := []) (lenOf pd_2 rfl) rfl (by show 2 * 0 + _ ≤ _; exact Nat.le_of_eq rfl) (hb hby at_105) (fun _ _ => ⟨rfl, rfl, (by decide : 3 + 0 ≤ _), (by decide : 65539 + 0 ≤ _)⟩)
        dsimp only [Pt.U, Pt.locs, Pt.cells, Pt.slots] at X53 l53 y53 z53 st53 hQ53
        subst l53 y53 z53
        obtain ⟨rfl, N53q, e53⟩ := hQ53
        have N53 := Fr.app N39 N53q
        replace X53 : Stand p l e room_1 s m _ below meth c T53 _ 3 65539 := X53
        refine own_go (fun t_ k => st53.trans k) ?_
        show WP p e below _ (T53.setTop (mkF m 108 #[.val (.int p1), .val (.int p2), .val (.int p3), .val (.int p4), .val (.int p5), .val (.int (2 : Int32)), .val (.int vi26), .val (.int vi27), .val (.int vi28), .val (.int vi29), .val (.ref b30), .val (.int z36_S0)] [(.int ((vi26.toInt8.toInt32).toInt8.toInt32))]))
        refine own_go (fun t_ k => XS.iload X53.here hx rfl (hb hby at_108) rfl k) ?_
        show WP p e below _ (T53.setTop (mkF m 110 #[.val (.int p1), .val (.int p2), .val (.int p3), .val (.int p4), .val (.int p5), .val (.int (2 : Int32)), .val (.int vi26), .val (.int vi27), .val (.int vi28), .val (.int vi29), .val (.ref b30), .val (.int z36_S0)] [(.int vi26), (.int ((vi26.toInt8.toInt32).toInt8.toInt32))]))
        by_cases hc110_54 : ((vi26.toInt8.toInt32).toInt8.toInt32) = vi26
        · refine own_go (fun t_ k => XS.icmpNo X53.here hx rfl (hb hby at_110) rfl (teq hc110_54).2 k) ?_
          show WP p e below _ (T53.setTop (mkF m 113 #[.val (.int p1), .val (.int p2), .val (.int p3), .val (.int p4), .val (.int p5), .val (.int (2 : Int32)), .val (.int vi26), .val (.int vi27), .val (.int vi28), .val (.int vi29), .val (.ref b30), .val (.int z36_S0)] []))
          refine own_go (fun t_ k => XS.iconst X53.here hx rfl (hb hby at_113) k) ?_
          show WP p e below _ (T53.setTop (mkF m 114 #[.val (.int p1), .val (.int p2), .val (.int p3), .val (.int p4), .val (.int p5), .val (.int (2 : Int32)), .val (.int vi26), .val (.int vi27), .val (.int vi28), .val (.int vi29), .val (.ref b30), .val (.int z36_S0)] [(.int (1 : Int32))]))
          refine own_go (fun t_ k => XS.goto X53.here hx rfl (pc0 := 114) (pc' := 118) rfl (hb hby at_114) (by decide) (by decide) k) ?_
          show WP p e below _ (T53.setTop (mkF m 118 #[.val (.int p1), .val (.int p2), .val (.int p3), .val (.int p4), .val (.int p5), .val (.int (2 : Int32)), .val (.int vi26), .val (.int vi27), .val (.int vi28), .val (.int vi29), .val (.ref b30), .val (.int z36_S0)] [(.int (1 : Int32))]))
          exact J44 T53 _ X53 N53 e53 _ (by rw [if_neg hc99_42, if_pos hc110_54])
        · refine own_go (fun t_ k => XS.icmpYes X53.here hx rfl (pc0 := 110) (pc' := 117) rfl (hb hby at_110) rfl (feq hc110_54).2 (by decide) (by decide) k) ?_
          show WP p e below _ (T53.setTop (mkF m 117 #[.val (.int p1), .val (.int p2), .val (.int p3), .val (.int p4), .val (.int p5), .val (.int (2 : Int32)), .val (.int vi26), .val (.int vi27), .val (.int vi28), .val (.int vi29), .val (.ref b30), .val (.int z36_S0)] []))
          refine own_go (fun t_ k => XS.iconst X53.here hx rfl (hb hby at_117) k) ?_
          show WP p e below _ (T53.setTop (mkF m 118 #[.val (.int p1), .val (.int p2), .val (.int p3), .val (.int p4), .val (.int p5), .val (.int (2 : Int32)), .val (.int vi26), .val (.int vi27), .val (.int vi28), .val (.int vi29), .val (.ref b30), .val (.int z36_S0)] [(.int (0 : Int32))]))
          exact J44 T53 _ X53 N53 e53 _ (by rw [if_neg hc99_42, if_neg hc110_54])
    by_cases hc48_35 : vi34 = vi26
    · refine own_go (fun t_ k => XS.icmpNo X33.here hx rfl (hb hby at_48) rfl (teq hc48_35).2 k) ?_
      show WP p e below _ (T33.setTop (mkF m 51 #[.val (.int p1), .val (.int p2), .val (.int p3), .val (.int p4), .val (.int p5), .val (.int (2 : Int32)), .val (.int vi26), .val (.int vi27), .val (.int vi28), .val (.int vi29), .val (.ref b30), .unset] []))
      refine own_go (fun t_ k => XS.iconst X33.here hx rfl (hb hby at_51) k) ?_
      show WP p e below _ (T33.setTop (mkF m 52 #[.val (.int p1), .val (.int p2), .val (.int p3), .val (.int p4), .val (.int p5), .val (.int (2 : Int32)), .val (.int vi26), .val (.int vi27), .val (.int vi28), .val (.int vi29), .val (.ref b30), .unset] [(.int (1 : Int32))]))
      refine own_go (fun t_ k => XS.goto X33.here hx rfl (pc0 := 52) (pc' := 56) rfl (hb hby at_52) (by decide) (by decide) k) ?_
      show WP p e below _ (T33.setTop (mkF m 56 #[.val (.int p1), .val (.int p2), .val (.int p3), .val (.int p4), .val (.int p5), .val (.int (2 : Int32)), .val (.int vi26), .val (.int vi27), .val (.int vi28), .val (.int vi29), .val (.ref b30), .unset] [(.int (1 : Int32))]))
      exact J37 T33 _ X33 N33 e33 _ (by rw [if_pos hc48_35])
    · refine own_go (fun t_ k => XS.icmpYes X33.here hx rfl (pc0 := 48) (pc' := 55) rfl (hb hby at_48) rfl (feq hc48_35).2 (by decide) (by decide) k) ?_
      show WP p e below _ (T33.setTop (mkF m 55 #[.val (.int p1), .val (.int p2), .val (.int p3), .val (.int p4), .val (.int p5), .val (.int (2 : Int32)), .val (.int vi26), .val (.int vi27), .val (.int vi28), .val (.int vi29), .val (.ref b30), .unset] []))
      refine own_go (fun t_ k => XS.iconst X33.here hx rfl (hb hby at_55) k) ?_
      show WP p e below _ (T33.setTop (mkF m 56 #[.val (.int p1), .val (.int p2), .val (.int p3), .val (.int p4), .val (.int p5), .val (.int (2 : Int32)), .val (.int vi26), .val (.int vi27), .val (.int vi28), .val (.int vi29), .val (.ref b30), .unset] [(.int (0 : Int32))]))
      exact J37 T33 _ X33 N33 e33 _ (by rw [if_neg hc48_35])
  · subst hs2
    show WP p e below _ (s₁.setTop (mkF m 8 #[.val (.int p1), .val (.int p2), .val (.int p3), .val (.int p4), .val (.int p5), .val (.int (3 : Int32)), .unset, .unset, .unset, .unset, .unset, .unset] []))
    refine own_go (fun t_ k => XS.iloadN X0.here hx rfl (hb hby at_8) rfl k) ?_
    show WP p e below _ (s₁.setTop (mkF m 9 #[.val (.int p1), .val (.int p2), .val (.int p3), .val (.int p4), .val (.int p5), .val (.int (3 : Int32)), .unset, .unset, .unset, .unset, .unset, .unset] [(.int p1)]))
    refine own_go (fun t_ k => XS.i2b X0.here hx rfl (hb hby at_9) rfl k) ?_
    show WP p e below _ (s₁.setTop (mkF m 10 #[.val (.int p1), .val (.int p2), .val (.int p3), .val (.int p4), .val (.int p5), .val (.int (3 : Int32)), .unset, .unset, .unset, .unset, .unset, .unset] [(.int (p1.toInt8.toInt32))]))
    refine own_go (fun t_ k => XS.istore X0.here hx rfl (hb hby at_10) rfl (l' := #[.val (.int p1), .val (.int p2), .val (.int p3), .val (.int p4), .val (.int p5), .val (.int (3 : Int32)), .val (.int (p1.toInt8.toInt32)), .unset, .unset, .unset, .unset, .unset]) rfl k) ?_
    show WP p e below _ (s₁.setTop (mkF m 12 #[.val (.int p1), .val (.int p2), .val (.int p3), .val (.int p4), .val (.int p5), .val (.int (3 : Int32)), .val (.int (p1.toInt8.toInt32)), .unset, .unset, .unset, .unset, .unset] []))
    generalize he55 : (p1.toInt8.toInt32) = vi55
    show WP p e below _ (s₁.setTop (mkF m 12 #[.val (.int p1), .val (.int p2), .val (.int p3), .val (.int p4), .val (.int p5), .val (.int (3 : Int32)), .val (.int vi55), .unset, .unset, .unset, .unset, .unset] []))
    refine own_go (fun t_ k => XS.iloadN X0.here hx rfl (hb hby at_12) rfl k) ?_
    show WP p e below _ (s₁.setTop (mkF m 13 #[.val (.int p1), .val (.int p2), .val (.int p3), .val (.int p4), .val (.int p5), .val (.int (3 : Int32)), .val (.int vi55), .unset, .unset, .unset, .unset, .unset] [(.int p2)]))
    refine own_go (fun t_ k => XS.i2b X0.here hx rfl (hb hby at_13) rfl k) ?_
    show WP p e below _ (s₁.setTop (mkF m 14 #[.val (.int p1), .val (.int p2), .val (.int p3), .val (.int p4), .val (.int p5), .val (.int (3 : Int32)), .val (.int vi55), .unset, .unset, .unset, .unset, .unset] [(.int (p2.toInt8.toInt32))]))
    refine own_go (fun t_ k => XS.istore X0.here hx rfl (hb hby at_14) rfl (l' := #[.val (.int p1), .val (.int p2), .val (.int p3), .val (.int p4), .val (.int p5), .val (.int (3 : Int32)), .val (.int vi55), .val (.int (p2.toInt8.toInt32)), .unset, .unset, .unset, .unset]) rfl k) ?_
    show WP p e below _ (s₁.setTop (mkF m 16 #[.val (.int p1), .val (.int p2), .val (.int p3), .val (.int p4), .val (.int p5), .val (.int (3 : Int32)), .val (.int vi55), .val (.int (p2.toInt8.toInt32)), .unset, .unset, .unset, .unset] []))
    generalize he56 : (p2.toInt8.toInt32) = vi56
    show WP p e below _ (s₁.setTop (mkF m 16 #[.val (.int p1), .val (.int p2), .val (.int p3), .val (.int p4), .val (.int p5), .val (.int (3 : Int32)), .val (.int vi55), .val (.int vi56), .unset, .unset, .unset, .unset] []))
    refine own_go (fun t_ k => XS.iloadN X0.here hx rfl (hb hby at_16) rfl k) ?_
    show WP p e below _ (s₁.setTop (mkF m 17 #[.val (.int p1), .val (.int p2), .val (.int p3), .val (.int p4), .val (.int p5), .val (.int (3 : Int32)), .val (.int vi55), .val (.int vi56), .unset, .unset, .unset, .unset] [(.int p3)]))
    refine own_go (fun t_ k => XS.i2b X0.here hx rfl (hb hby at_17) rfl k) ?_
    show WP p e below _ (s₁.setTop (mkF m 18 #[.val (.int p1), .val (.int p2), .val (.int p3), .val (.int p4), .val (.int p5), .val (.int (3 : Int32)), .val (.int vi55), .val (.int vi56), .unset, .unset, .unset, .unset] [(.int (p3.toInt8.toInt32))]))
    refine own_go (fun t_ k => XS.istore X0.here hx rfl (hb hby at_18) rfl (l' := #[.val (.int p1), .val (.int p2), .val (.int p3), .val (.int p4), .val (.int p5), .val (.int (3 : Int32)), .val (.int vi55), .val (.int vi56), .val (.int (p3.toInt8.toInt32)), .unset, .unset, .unset]) rfl k) ?_
    show WP p e below _ (s₁.setTop (mkF m 20 #[.val (.int p1), .val (.int p2), .val (.int p3), .val (.int p4), .val (.int p5), .val (.int (3 : Int32)), .val (.int vi55), .val (.int vi56), .val (.int (p3.toInt8.toInt32)), .unset, .unset, .unset] []))
    generalize he57 : (p3.toInt8.toInt32) = vi57
    show WP p e below _ (s₁.setTop (mkF m 20 #[.val (.int p1), .val (.int p2), .val (.int p3), .val (.int p4), .val (.int p5), .val (.int (3 : Int32)), .val (.int vi55), .val (.int vi56), .val (.int vi57), .unset, .unset, .unset] []))
    refine own_go (fun t_ k => XS.iloadN X0.here hx rfl (hb hby at_20) rfl k) ?_
    show WP p e below _ (s₁.setTop (mkF m 21 #[.val (.int p1), .val (.int p2), .val (.int p3), .val (.int p4), .val (.int p5), .val (.int (3 : Int32)), .val (.int vi55), .val (.int vi56), .val (.int vi57), .unset, .unset, .unset] [(.int p4)]))
    refine own_go (fun t_ k => XS.i2b X0.here hx rfl (hb hby at_21) rfl k) ?_
    show WP p e below _ (s₁.setTop (mkF m 22 #[.val (.int p1), .val (.int p2), .val (.int p3), .val (.int p4), .val (.int p5), .val (.int (3 : Int32)), .val (.int vi55), .val (.int vi56), .val (.int vi57), .unset, .unset, .unset] [(.int (p4.toInt8.toInt32))]))
    refine own_go (fun t_ k => XS.istore X0.here hx rfl (hb hby at_22) rfl (l' := #[.val (.int p1), .val (.int p2), .val (.int p3), .val (.int p4), .val (.int p5), .val (.int (3 : Int32)), .val (.int vi55), .val (.int vi56), .val (.int vi57), .val (.int (p4.toInt8.toInt32)), .unset, .unset]) rfl k) ?_
    show WP p e below _ (s₁.setTop (mkF m 24 #[.val (.int p1), .val (.int p2), .val (.int p3), .val (.int p4), .val (.int p5), .val (.int (3 : Int32)), .val (.int vi55), .val (.int vi56), .val (.int vi57), .val (.int (p4.toInt8.toInt32)), .unset, .unset] []))
    generalize he58 : (p4.toInt8.toInt32) = vi58
    show WP p e below _ (s₁.setTop (mkF m 24 #[.val (.int p1), .val (.int p2), .val (.int p3), .val (.int p4), .val (.int p5), .val (.int (3 : Int32)), .val (.int vi55), .val (.int vi56), .val (.int vi57), .val (.int vi58), .unset, .unset] []))
    obtain ⟨T59, h59, X59, e59, E59, A59, D59, -, st59⟩ := newO X0 hx hZ hown (hw _ (List.mem_of_getElem? (i := 0) rfl)) (hw _ (List.mem_of_getElem? (i := 1) rfl)) (hw _ (List.mem_of_getElem? (i := 2) rfl)) e0 (g := (mkF m 24 #[.val (.int p1), .val (.int p2), .val (.int p3), .val (.int p4), .val (.int p5), .val (.int (3 : Int32)), .val (.int vi55), .val (.int vi56), .val (.int vi57), .val (.int vi58), .unset, .unset] [])) rfl (hb hby at_24) (by decide) (by decide)
    obtain ⟨b59, g59⟩ : ∃ z, z = Array.size h0 := ⟨_, rfl⟩
    rw [← g59] at A59 D59 st59
    refine own_go st59 ?_
    have g_b59 : n0 ≤ b59 := Nat.le_trans (Nat.le_trans Z0 (Keep.refl h0 []).1) (Nat.le_of_eq g59.symm)
    have sz_b59 : h0.size ≤ b59 := Nat.le_trans (Keep.refl h0 []).1 (Nat.le_of_eq g59.symm)
    have K59 : Keep h0 h59 [] := (Keep.refl h0 []).ext E59
    have F59_blocks : Fld Z h59 b59 "com/example/vestry/vestry/ByteBlocks" "blocks" "[[B" .null := D59 (Or.inl (hw _ (List.mem_of_getElem? (i := 12) rfl))) (ty := (.array (.array .byte))) (by decide)
    have F59_size : Fld Z h59 b59 "com/example/vestry/vestry/ByteBlocks" "size" "J" (.long (0 : Int64)) := D59 (Or.inl (hw _ (List.mem_of_getElem? (i := 19) rfl))) (ty := .long) (by decide)
    show WP p e below _ (T59.setTop (mkF m 27 #[.val (.int p1), .val (.int p2), .val (.int p3), .val (.int p4), .val (.int p5), .val (.int (3 : Int32)), .val (.int vi55), .val (.int vi56), .val (.int vi57), .val (.int vi58), .unset, .unset] [(.ref b59)]))
    refine own_go (fun t_ k => XS.dup X59.here hx rfl (hb hby at_27) rfl rfl k) ?_
    show WP p e below _ (T59.setTop (mkF m 28 #[.val (.int p1), .val (.int p2), .val (.int p3), .val (.int p4), .val (.int p5), .val (.int (3 : Int32)), .val (.int vi55), .val (.int vi56), .val (.int vi57), .val (.int vi58), .unset, .unset] [(.ref b59), (.ref b59)]))
    obtain ⟨_, _, ⟨T60, L60, k60, n60⟩, -, X60, ⟨Lc60, hQ60, l60, y60, z60⟩, st60⟩ := X59.specialBack hx (y := (⟨"com/example/vestry/vestry/ByteBlocks", "<init>", "()V"⟩ : MethodName)) rfl hown (mvT hZ (hw _ (List.mem_of_getElem? (i := 3) rfl))) (mvT hZ (hw _ (List.mem_of_getElem? (i := 4) rfl))) (mvT hZ (hw _ (List.mem_of_getElem? (i := 5) rfl))) (by decide) (backOf (W := 1) (rm_i l Z a0 hw [] b59 h59 n0 (Nat.le_trans Z0 K59.1) A59 g_b59 F59_blocks F59_size) hZ (hw _ (List.mem_of_getElem? (i := 5) rfl)) (hw _ (List.mem_of_getElem? (i := 2) rfl)) (by decide) (by decide)) (g := (mkF m 28 #[.val (.int p1), .val (.int p2), .val (.int p3), .val (.int p4), .val (.int p5), .val (.int (3 : Int32)), .val (.int vi55), .val (.int vi56), .val (.int vi57), .val (.int vi58), .unset, .unset] [(.ref b59), (.ref b59)])) rfl (by rw [hml]; rfl) (Steps.refl _) (a := b59) (argsL := []) (rest := [(.ref b59)]) (lenOf pd_0 rfl) rfl (by show 2 * 0 + _ ≤ _; exact Nat.le_of_eq rfl) (hb hby at_28) (fun _ _ => ⟨rfl, e59, (by decide : 1 + 1 ≤ _), (by decide : 2 + 1 ≤ _)⟩)
    dsimp only [Pt.U, Pt.locs, Pt.cells, Pt.slots] at X60 l60 y60 z60 st60 hQ60
    subst l60 y60 z60
    obtain ⟨rfl, N60q, K60c, t60, kk60, gt60, szt60', P60, O60⟩ := hQ60
    have N60 := Fr.app N0 N60q
    replace X60 : Stand p l e room_1 s m _ below meth c T60 _ 2 3 := X60
    refine own_go (fun t_ k => st60.trans k) ?_
    have K60 : Keep h0 T60.heap [] := K59.trans K60c (allS (Or.inr sz_b59) all0)
    have szt60 : h0.size ≤ t60 := Nat.le_trans K59.1 szt60'
    show WP p e below _ (T60.setTop (mkF m 31 #[.val (.int p1), .val (.int p2), .val (.int p3), .val (.int p4), .val (.int p5), .val (.int (3 : Int32)), .val (.int vi55), .val (.int vi56), .val (.int vi57), .val (.int vi58), .unset, .unset] [(.ref b59)]))
    refine own_go (fun t_ k => XS.astore X60.here hx rfl (hb hby at_31) rfl rfl (l' := #[.val (.int p1), .val (.int p2), .val (.int p3), .val (.int p4), .val (.int p5), .val (.int (3 : Int32)), .val (.int vi55), .val (.int vi56), .val (.int vi57), .val (.int vi58), .val (.ref b59), .unset]) rfl k) ?_
    show WP p e below _ (T60.setTop (mkF m 33 #[.val (.int p1), .val (.int p2), .val (.int p3), .val (.int p4), .val (.int p5), .val (.int (3 : Int32)), .val (.int vi55), .val (.int vi56), .val (.int vi57), .val (.int vi58), .val (.ref b59), .unset] []))
    refine own_go (fun t_ k => XS.aload X60.here hx rfl (hb hby at_33) rfl rfl k) ?_
    show WP p e below _ (T60.setTop (mkF m 35 #[.val (.int p1), .val (.int p2), .val (.int p3), .val (.int p4), .val (.int p5), .val (.int (3 : Int32)), .val (.int vi55), .val (.int vi56), .val (.int vi57), .val (.int vi58), .val (.ref b59), .unset] [(.ref b59)]))
    refine own_go (fun t_ k => XS.iload X60.here hx rfl (hb hby at_35) rfl k) ?_
    show WP p e below _ (T60.setTop (mkF m 37 #[.val (.int p1), .val (.int p2), .val (.int p3), .val (.int p4), .val (.int p5), .val (.int (3 : Int32)), .val (.int vi55), .val (.int vi56), .val (.int vi57), .val (.int vi58), .val (.ref b59), .unset] [(.int vi55), (.ref b59)]))
    obtain ⟨cq61, kq61, q61a, q61b, q61c⟩ := isOf (T := T60) hZ rfl P60.1
    obtain ⟨_, _, ⟨T61, L61, k61, n61⟩, -, X61, ⟨Lc61, hQ61, l61, y61, z61⟩, st61⟩ := X60.virtualBack hx (y := (⟨"com/example/vestry/vestry/ByteBlocks", "append", "(B)V"⟩ : MethodName)) (z := (⟨"com/example/vestry/vestry/ByteBlocks", "append", "(B)V"⟩ : MethodName)) hown (mvT hZ (hw _ (List.mem_of_getElem? (i := 13) rfl))) (mvT hZ (hw _ (List.mem_of_getElem? (i := 14) rfl))) (notFace_of_selects (args := #[]) (mvT hZ (hw _ (List.mem_of_getElem? (i := 16) rfl)))) (mvT hZ (hw _ (List.mem_of_getElem? (i := 16) rfl))) (mvT hZ (hw _ (List.mem_of_getElem? (i := 15) rfl))) (by decide) (backOf (W := 0) (rm_a0 l Z a0 hw [] b59 vi55 t60 kk60 T60.heap n0 (Nat.le_trans Z0 K60.1) P60 O60 g_b59 gt60) hZ (hw _ (List.mem_of_getElem? (i := 17) rfl)) (hw _ (List.mem_of_getElem? (i := 2) rfl)) (by decide) (by decide)) q61a q61c (g := (mkF m 37 #[.val (.int p1), .val (.int p2), .val (.int p3), .val (.int p4), .val (.int p5), .val (.int (3 : Int32)), .val (.int vi55), .val (.int vi56), .val (.int vi57), .val (.int vi58), .val (.ref b59), .unset] [(.int vi55), (.ref b59)])) rfl (by rw [hml]; rfl) (Steps.refl _) (argsL := [(.int vi55)]) (rest := []) (lenOf pd_1 rfl) rfl (by show 2 * 0 + _ ≤ _; exact Nat.le_of_eq rfl) (hb hby at_37) (fun _ _ => ⟨rfl, rfl, (by decide : 2 + 1 ≤ _), (by decide : 3 + 65536 ≤ _)⟩)
    dsimp only [Pt.U, Pt.locs, Pt.cells, Pt.slots] at X61 l61 y61 z61 st61 hQ61
    subst l61 y61 z61
    obtain ⟨rfl, N61q, K61c, b61, kb61, gb61, szb61', P61⟩ := hQ61
    have N61 := Fr.app N60 N61q
    replace X61 : Stand p l e room_1 s m _ below meth c T61 _ 3 65539 := X61
    refine own_go (fun t_ k => st61.trans k) ?_
    have K61 : Keep h0 T61.heap [] := K60.trans K61c (allS (Or.inr sz_b59) (allS (Or.inr szt60) all0))
    have szb61 : h0.size ≤ b61 := Nat.le_trans K60.1 szb61'
    replace P61 : BB Z T61.heap b59 t60 kk60 b61 kb61 (1 : Int64) [(vi55.toInt8.toInt32)] := P61
    show WP p e below _ (T61.setTop (mkF m 40 #[.val (.int p1), .val (.int p2), .val (.int p3), .val (.int p4), .val (.int p5), .val (.int (3 : Int32)), .val (.int vi55), .val (.int vi56), .val (.int vi57), .val (.int vi58), .val (.ref b59), .unset] []))
    refine own_go (fun t_ k => XS.aload X61.here hx rfl (hb hby at_40) rfl rfl k) ?_
    show WP p e below _ (T61.setTop (mkF m 42 #[.val (.int p1), .val (.int p2), .val (.int p3), .val (.int p4), .val (.int p5), .val (.int (3 : Int32)), .val (.int vi55), .val (.int vi56), .val (.int vi57), .val (.int vi58), .val (.ref b59), .unset] [(.ref b59)]))
    refine own_go (fun t_ k => XS.lconst X61.here hx rfl (hb hby at_42) k) ?_
    show WP p e below _ (T61.setTop (mkF m 43 #[.val (.int p1), .val (.int p2), .val (.int p3), .val (.int p4), .val (.int p5), .val (.int (3 : Int32)), .val (.int vi55), .val (.int vi56), .val (.int vi57), .val (.int vi58), .val (.ref b59), .unset] [(.long (0 : Int64)), (.ref b59)]))
    obtain ⟨cq62, kq62, q62a, q62b, q62c⟩ := isOf (T := T61) hZ rfl P61.1
    obtain ⟨_, _, ⟨T62, L62, k62, n62⟩, -, X62, ⟨Lc62, hQ62, l62, y62, z62⟩, st62⟩ := X61.virtualBack hx (y := (⟨"com/example/vestry/vestry/ByteBlocks", "at", "(J)B"⟩ : MethodName)) (z := (⟨"com/example/vestry/vestry/ByteBlocks", "at", "(J)B"⟩ : MethodName)) hown (mvT hZ (hw _ (List.mem_of_getElem? (i := 24) rfl))) (mvT hZ (hw _ (List.mem_of_getElem? (i := 25) rfl))) (notFace_of_selects (args := #[]) (mvT hZ (hw _ (List.mem_of_getElem? (i := 27) rfl)))) (mvT hZ (hw _ (List.mem_of_getElem? (i := 27) rfl))) (mvT hZ (hw _ (List.mem_of_getElem? (i := 26) rfl))) (by decide) (backOf (W := 0) (rm_at0 l Z a0 hw [] b59 (0 : Int64) t60 kk60 b61 kb61 (1 : Int64) [(vi55.toInt8.toInt32)] T61.heap n0 P61 rfl) hZ (hw _ (List.mem_of_getElem? (i := 28) rfl)) (hw _ (List.mem_of_getElem? (i := 2) rfl)) (by decide) (by decide)) q62a q62c (g := (mkF m 43 #[.val (.int p1), .val (.int p2), .val (.int p3), .val (.int p4), .val (.int p5), .val (.int (3 : Int32)), .val (.int vi55), .val (.int vi56), .val (.int vi57), .val (.int vi58), .val (.ref b59), .unset] [(.long (0 : Int64)), (.ref b59)])) rfl (by rw [hml]; rfl) (Steps.refl _) (argsL := [(.long (0 : Int64))]) (rest := []) (lenOf pd_2 rfl) rfl (by show 2 * 0 + _ ≤ _; exact Nat.le_of_eq rfl) (hb hby at_43) (fun _ _ => ⟨rfl, rfl, (by decide : 3 + 0 ≤ _), (by decide : 65539 + 0 ≤ _)⟩)
    dsimp only [Pt.U, Pt.locs, Pt.cells, Pt.slots] at X62 l62 y62 z62 st62 hQ62
    subst l62 y62 z62
    obtain ⟨rfl, N62q, e62⟩ := hQ62
    have N62 := Fr.app N61 N62q
    replace X62 : Stand p l e room_1 s m _ below meth c T62 _ 3 65539 := X62
    refine own_go (fun t_ k => st62.trans k) ?_
    show WP p e below _ (T62.setTop (mkF m 46 #[.val (.int p1), .val (.int p2), .val (.int p3), .val (.int p4), .val (.int p5), .val (.int (3 : Int32)), .val (.int vi55), .val (.int vi56), .val (.int vi57), .val (.int vi58), .val (.ref b59), .unset] [(.int ((vi55.toInt8.toInt32).toInt8.toInt32))]))
    generalize he63 : ((vi55.toInt8.toInt32).toInt8.toInt32) = vi63
    show WP p e below _ (T62.setTop (mkF m 46 #[.val (.int p1), .val (.int p2), .val (.int p3), .val (.int p4), .val (.int p5), .val (.int (3 : Int32)), .val (.int vi55), .val (.int vi56), .val (.int vi57), .val (.int vi58), .val (.ref b59), .unset] [(.int vi63)]))
    refine own_go (fun t_ k => XS.iload X62.here hx rfl (hb hby at_46) rfl k) ?_
    show WP p e below _ (T62.setTop (mkF m 48 #[.val (.int p1), .val (.int p2), .val (.int p3), .val (.int p4), .val (.int p5), .val (.int (3 : Int32)), .val (.int vi55), .val (.int vi56), .val (.int vi57), .val (.int vi58), .val (.ref b59), .unset] [(.int vi55), (.int vi63)]))
    have J66 : ∀ (T66 : State) (ls66 : List Loc) (X66 : Stand p l e room_1 s m #[(.int p1), (.int p2), (.int p3), (.int p4), (.int p5)] below meth c T66 ls66 3 65539) (N66 : Fr n0 ls66) (e66 : T66.heap = T61.heap) (z65_S0 : Int32) (hz65_S0 : z65_S0 = (if vi63 = vi55 then (1 : Int32) else (0 : Int32))), WP p e below (GG (Q0 n0) s room_1.cells room_1.slots) (T66.setTop (mkF m 56 #[.val (.int p1), .val (.int p2), .val (.int p3), .val (.int p4), .val (.int p5), .val (.int (3 : Int32)), .val (.int vi55), .val (.int vi56), .val (.int vi57), .val (.int vi58), .val (.ref b59), .unset] [(.int z65_S0)])) := by
      intro T66 ls66 X66 N66 e66 z65_S0 hz65_S0
      show WP p e below _ (T66.setTop (mkF m 56 #[.val (.int p1), .val (.int p2), .val (.int p3), .val (.int p4), .val (.int p5), .val (.int (3 : Int32)), .val (.int vi55), .val (.int vi56), .val (.int vi57), .val (.int vi58), .val (.ref b59), .unset] [(.int z65_S0)]))
      refine own_go (fun t_ k => XS.istore X66.here hx rfl (hb hby at_56) rfl (l' := #[.val (.int p1), .val (.int p2), .val (.int p3), .val (.int p4), .val (.int p5), .val (.int (3 : Int32)), .val (.int vi55), .val (.int vi56), .val (.int vi57), .val (.int vi58), .val (.ref b59), .val (.int z65_S0)]) rfl k) ?_
      show WP p e below _ (T66.setTop (mkF m 58 #[.val (.int p1), .val (.int p2), .val (.int p3), .val (.int p4), .val (.int p5), .val (.int (3 : Int32)), .val (.int vi55), .val (.int vi56), .val (.int vi57), .val (.int vi58), .val (.ref b59), .val (.int z65_S0)] []))
      refine own_go (fun t_ k => XS.iload X66.here hx rfl (hb hby at_58) rfl k) ?_
      show WP p e below _ (T66.setTop (mkF m 60 #[.val (.int p1), .val (.int p2), .val (.int p3), .val (.int p4), .val (.int p5), .val (.int (3 : Int32)), .val (.int vi55), .val (.int vi56), .val (.int vi57), .val (.int vi58), .val (.ref b59), .val (.int z65_S0)] [(.int (3 : Int32))]))
      refine own_go (fun t_ k => XS.iconst X66.here hx rfl (hb hby at_60) k) ?_
      show WP p e below _ (T66.setTop (mkF m 61 #[.val (.int p1), .val (.int p2), .val (.int p3), .val (.int p4), .val (.int p5), .val (.int (3 : Int32)), .val (.int vi55), .val (.int vi56), .val (.int vi57), .val (.int vi58), .val (.ref b59), .val (.int z65_S0)] [(.int (1 : Int32)), (.int (3 : Int32))]))
      have hc61_67 : ((1 : Int32) < (3 : Int32)) := by decide
      refine own_go (fun t_ k => XS.icmpNo X66.here hx rfl (hb hby at_61) rfl (tlt hc61_67).2.2.2 k) ?_
      show WP p e below _ (T66.setTop (mkF m 64 #[.val (.int p1), .val (.int p2), .val (.int p3), .val (.int p4), .val (.int p5), .val (.int (3 : Int32)), .val (.int vi55), .val (.int vi56), .val (.int vi57), .val (.int vi58), .val (.ref b59), .val (.int z65_S0)] []))
      refine own_go (fun t_ k => XS.aload X66.here hx rfl (hb hby at_64) rfl rfl k) ?_
      show WP p e below _ (T66.setTop (mkF m 66 #[.val (.int p1), .val (.int p2), .val (.int p3), .val (.int p4), .val (.int p5), .val (.int (3 : Int32)), .val (.int vi55), .val (.int vi56), .val (.int vi57), .val (.int vi58), .val (.ref b59), .val (.int z65_S0)] [(.ref b59)]))
      refine own_go (fun t_ k => XS.iload X66.here hx rfl (hb hby at_66) rfl k) ?_
      show WP p e below _ (T66.setTop (mkF m 68 #[.val (.int p1), .val (.int p2), .val (.int p3), .val (.int p4), .val (.int p5), .val (.int (3 : Int32)), .val (.int vi55), .val (.int vi56), .val (.int vi57), .val (.int vi58), .val (.ref b59), .val (.int z65_S0)] [(.int vi56), (.ref b59)]))
      obtain ⟨cq68, kq68, q68a, q68b, q68c⟩ := isOf (T := T66) hZ e66 P61.1
      obtain ⟨_, _, ⟨T68, L68, k68, n68⟩, -, X68, ⟨Lc68, hQ68, l68, y68, z68⟩, st68⟩ := X66.virtualBack hx (y := (⟨"com/example/vestry/vestry/ByteBlocks", "append", "(B)V"⟩ : MethodName)) (z := (⟨"com/example/vestry/vestry/ByteBlocks", "append", "(B)V"⟩ : MethodName)) hown (mvT hZ (hw _ (List.mem_of_getElem? (i := 13) rfl))) (mvT hZ (hw _ (List.mem_of_getElem? (i := 14) rfl))) (notFace_of_selects (args := #[]) (mvT hZ (hw _ (List.mem_of_getElem? (i := 16) rfl)))) (mvT hZ (hw _ (List.mem_of_getElem? (i := 16) rfl))) (mvT hZ (hw _ (List.mem_of_getElem? (i := 15) rfl))) (by decide) (backOf (W := 0) (rm_a1 l Z a0 hw [] b59 vi56 t60 kk60 b61 kb61 [(vi55.toInt8.toInt32)] T61.heap n0 P61 rfl g_b59 gb61) hZ (hw _ (List.mem_of_getElem? (i := 17) rfl)) (hw _ (List.mem_of_getElem? (i := 2) rfl)) (by decide) (by decide)) q68a q68c (g := (mkF m 68 #[.val (.int p1), .val (.int p2), .val (.int p3), .val (.int p4), .val (.int p5), .val (.int (3 : Int32)), .val (.int vi55), .val (.int vi56), .val (.int vi57), .val (.int vi58), .val (.ref b59), .val (.int z65_S0)] [(.int vi56), (.ref b59)])) rfl (by rw [hml]; rfl) (Steps.refl _) (argsL := [(.int vi56)]) (rest := []) (lenOf pd_1 rfl) rfl (by show 2 * 0 + _ ≤ _; exact Nat.le_of_eq rfl) (hb hby at_68) (fun _ _ => ⟨rfl, e66, (by decide : 3 + 0 ≤ _), (by decide : 65539 + 0 ≤ _)⟩)
      dsimp only [Pt.U, Pt.locs, Pt.cells, Pt.slots] at X68 l68 y68 z68 st68 hQ68
      subst l68 y68 z68
      obtain ⟨rfl, N68q, K68c, P68⟩ := hQ68
      have N68 := Fr.app N66 N68q
      replace X68 : Stand p l e room_1 s m _ below meth c T68 _ 3 65539 := X68
      refine own_go (fun t_ k => st68.trans k) ?_
      have K68 : Keep h0 T68.heap [] := K61.trans K68c (allS (Or.inr sz_b59) (allS (Or.inr szb61) all0))
      replace P68 : BB Z T68.heap b59 t60 kk60 b61 kb61 (2 : Int64) [(vi55.toInt8.toInt32), (vi56.toInt8.toInt32)] := P68
      show WP p e below _ (T68.setTop (mkF m 71 #[.val (.int p1), .val (.int p2), .val (.int p3), .val (.int p4), .val (.int p5), .val (.int (3 : Int32)), .val (.int vi55), .val (.int vi56), .val (.int vi57), .val (.int vi58), .val (.ref b59), .val (.int z65_S0)] []))
      refine own_go (fun t_ k => XS.iload X68.here hx rfl (hb hby at_71) rfl k) ?_
      show WP p e below _ (T68.setTop (mkF m 73 #[.val (.int p1), .val (.int p2), .val (.int p3), .val (.int p4), .val (.int p5), .val (.int (3 : Int32)), .val (.int vi55), .val (.int vi56), .val (.int vi57), .val (.int vi58), .val (.ref b59), .val (.int z65_S0)] [(.int (3 : Int32))]))
      refine own_go (fun t_ k => XS.iconst X68.here hx rfl (hb hby at_73) k) ?_
      show WP p e below _ (T68.setTop (mkF m 74 #[.val (.int p1), .val (.int p2), .val (.int p3), .val (.int p4), .val (.int p5), .val (.int (3 : Int32)), .val (.int vi55), .val (.int vi56), .val (.int vi57), .val (.int vi58), .val (.ref b59), .val (.int z65_S0)] [(.int (2 : Int32)), (.int (3 : Int32))]))
      have hc74_69 : ((2 : Int32) < (3 : Int32)) := by decide
      refine own_go (fun t_ k => XS.icmpNo X68.here hx rfl (hb hby at_74) rfl (tlt hc74_69).2.2.2 k) ?_
      show WP p e below _ (T68.setTop (mkF m 77 #[.val (.int p1), .val (.int p2), .val (.int p3), .val (.int p4), .val (.int p5), .val (.int (3 : Int32)), .val (.int vi55), .val (.int vi56), .val (.int vi57), .val (.int vi58), .val (.ref b59), .val (.int z65_S0)] []))
      refine own_go (fun t_ k => XS.aload X68.here hx rfl (hb hby at_77) rfl rfl k) ?_
      show WP p e below _ (T68.setTop (mkF m 79 #[.val (.int p1), .val (.int p2), .val (.int p3), .val (.int p4), .val (.int p5), .val (.int (3 : Int32)), .val (.int vi55), .val (.int vi56), .val (.int vi57), .val (.int vi58), .val (.ref b59), .val (.int z65_S0)] [(.ref b59)]))
      refine own_go (fun t_ k => XS.iload X68.here hx rfl (hb hby at_79) rfl k) ?_
      show WP p e below _ (T68.setTop (mkF m 81 #[.val (.int p1), .val (.int p2), .val (.int p3), .val (.int p4), .val (.int p5), .val (.int (3 : Int32)), .val (.int vi55), .val (.int vi56), .val (.int vi57), .val (.int vi58), .val (.ref b59), .val (.int z65_S0)] [(.int vi57), (.ref b59)]))
      obtain ⟨cq70, kq70, q70a, q70b, q70c⟩ := isOf (T := T68) hZ rfl P68.1
      obtain ⟨_, _, ⟨T70, L70, k70, n70⟩, -, X70, ⟨Lc70, hQ70, l70, y70, z70⟩, st70⟩ := X68.virtualBack hx (y := (⟨"com/example/vestry/vestry/ByteBlocks", "append", "(B)V"⟩ : MethodName)) (z := (⟨"com/example/vestry/vestry/ByteBlocks", "append", "(B)V"⟩ : MethodName)) hown (mvT hZ (hw _ (List.mem_of_getElem? (i := 13) rfl))) (mvT hZ (hw _ (List.mem_of_getElem? (i := 14) rfl))) (notFace_of_selects (args := #[]) (mvT hZ (hw _ (List.mem_of_getElem? (i := 16) rfl)))) (mvT hZ (hw _ (List.mem_of_getElem? (i := 16) rfl))) (mvT hZ (hw _ (List.mem_of_getElem? (i := 15) rfl))) (by decide) (backOf (W := 0) (rm_a2 l Z a0 hw [] b59 vi57 t60 kk60 b61 kb61 [(vi55.toInt8.toInt32), (vi56.toInt8.toInt32)] T68.heap n0 P68 rfl g_b59 gb61) hZ (hw _ (List.mem_of_getElem? (i := 17) rfl)) (hw _ (List.mem_of_getElem? (i := 2) rfl)) (by decide) (by decide)) q70a q70c (g := (mkF m 81 #[.val (.int p1), .val (.int p2), .val (.int p3), .val (.int p4), .val (.int p5), .val (.int (3 : Int32)), .val (.int vi55), .val (.int vi56), .val (.int vi57), .val (.int vi58), .val (.ref b59), .val (.int z65_S0)] [(.int vi57), (.ref b59)])) rfl (by rw [hml]; rfl) (Steps.refl _) (argsL := [(.int vi57)]) (rest := []) (lenOf pd_1 rfl) rfl (by show 2 * 0 + _ ≤ _; exact Nat.le_of_eq rfl) (hb hby at_81) (fun _ _ => ⟨rfl, rfl, (by decide : 3 + 0 ≤ _), (by decide : 65539 + 0 ≤ _)⟩)
      dsimp only [Pt.U, Pt.locs, Pt.cells, Pt.slots] at X70 l70 y70 z70 st70 hQ70
      subst l70 y70 z70
      obtain ⟨rfl, N70q, K70c, P70⟩ := hQ70
      have N70 := Fr.app N68 N70q
      replace X70 : Stand p l e room_1 s m _ below meth c T70 _ 3 65539 := X70
      refine own_go (fun t_ k => st70.trans k) ?_
      have K70 : Keep h0 T70.heap [] := K68.trans K70c (allS (Or.inr sz_b59) (allS (Or.inr szb61) all0))
      replace P70 : BB Z T70.heap b59 t60 kk60 b61 kb61 (3 : Int64) [(vi55.toInt8.toInt32), (vi56.toInt8.toInt32), (vi57.toInt8.toInt32)] := P70
      show WP p e below _ (T70.setTop (mkF m 84 #[.val (.int p1), .val (.int p2), .val (.int p3), .val (.int p4), .val (.int p5), .val (.int (3 : Int32)), .val (.int vi55), .val (.int vi56), .val (.int vi57), .val (.int vi58), .val (.ref b59), .val (.int z65_S0)] []))
      refine own_go (fun t_ k => XS.iload X70.here hx rfl (hb hby at_84) rfl k) ?_
      show WP p e below _ (T70.setTop (mkF m 86 #[.val (.int p1), .val (.int p2), .val (.int p3), .val (.int p4), .val (.int p5), .val (.int (3 : Int32)), .val (.int vi55), .val (.int vi56), .val (.int vi57), .val (.int vi58), .val (.ref b59), .val (.int z65_S0)] [(.int (3 : Int32))]))
      refine own_go (fun t_ k => XS.iconst X70.here hx rfl (hb hby at_86) k) ?_
      show WP p e below _ (T70.setTop (mkF m 87 #[.val (.int p1), .val (.int p2), .val (.int p3), .val (.int p4), .val (.int p5), .val (.int (3 : Int32)), .val (.int vi55), .val (.int vi56), .val (.int vi57), .val (.int vi58), .val (.ref b59), .val (.int z65_S0)] [(.int (3 : Int32)), (.int (3 : Int32))]))
      have hc87_71 : ¬ ((3 : Int32) < (3 : Int32)) := by decide
      refine own_go (fun t_ k => XS.icmpYes X70.here hx rfl (pc0 := 87) (pc' := 97) rfl (hb hby at_87) rfl (flt hc87_71).2.2.2 (by decide) (by decide) k) ?_
      show WP p e below _ (T70.setTop (mkF m 97 #[.val (.int p1), .val (.int p2), .val (.int p3), .val (.int p4), .val (.int p5), .val (.int (3 : Int32)), .val (.int vi55), .val (.int vi56), .val (.int vi57), .val (.int vi58), .val (.ref b59), .val (.int z65_S0)] []))
      refine own_go (fun t_ k => XS.iload X70.here hx rfl (hb hby at_97) rfl k) ?_
      show WP p e below _ (T70.setTop (mkF m 99 #[.val (.int p1), .val (.int p2), .val (.int p3), .val (.int p4), .val (.int p5), .val (.int (3 : Int32)), .val (.int vi55), .val (.int vi56), .val (.int vi57), .val (.int vi58), .val (.ref b59), .val (.int z65_S0)] [(.int z65_S0)]))
      have J74 : ∀ (T74 : State) (ls74 : List Loc) (X74 : Stand p l e room_1 s m #[(.int p1), (.int p2), (.int p3), (.int p4), (.int p5)] below meth c T74 ls74 3 65539) (N74 : Fr n0 ls74) (e74 : T74.heap = T70.heap) (z73_S0 : Int32) (hz73_S0 : z73_S0 = (if z65_S0 = (0 : Int32) then (0 : Int32) else (if ((vi55.toInt8.toInt32).toInt8.toInt32) = vi55 then (1 : Int32) else (0 : Int32)))), WP p e below (GG (Q0 n0) s room_1.cells room_1.slots) (T74.setTop (mkF m 118 #[.val (.int p1), .val (.int p2), .val (.int p3), .val (.int p4), .val (.int p5), .val (.int (3 : Int32)), .val (.int vi55), .val (.int vi56), .val (.int vi57), .val (.int vi58), .val (.ref b59), .val (.int z65_S0)] [(.int z73_S0)])) := by
        intro T74 ls74 X74 N74 e74 z73_S0 hz73_S0
        show WP p e below _ (T74.setTop (mkF m 118 #[.val (.int p1), .val (.int p2), .val (.int p3), .val (.int p4), .val (.int p5), .val (.int (3 : Int32)), .val (.int vi55), .val (.int vi56), .val (.int vi57), .val (.int vi58), .val (.ref b59), .val (.int z65_S0)] [(.int z73_S0)]))
        refine own_go (fun t_ k => XS.istore X74.here hx rfl (hb hby at_118) rfl (l' := #[.val (.int p1), .val (.int p2), .val (.int p3), .val (.int p4), .val (.int p5), .val (.int (3 : Int32)), .val (.int vi55), .val (.int vi56), .val (.int vi57), .val (.int vi58), .val (.ref b59), .val (.int z73_S0)]) rfl k) ?_
        show WP p e below _ (T74.setTop (mkF m 120 #[.val (.int p1), .val (.int p2), .val (.int p3), .val (.int p4), .val (.int p5), .val (.int (3 : Int32)), .val (.int vi55), .val (.int vi56), .val (.int vi57), .val (.int vi58), .val (.ref b59), .val (.int z73_S0)] []))
        refine own_go (fun t_ k => XS.iload X74.here hx rfl (hb hby at_120) rfl k) ?_
        show WP p e below _ (T74.setTop (mkF m 122 #[.val (.int p1), .val (.int p2), .val (.int p3), .val (.int p4), .val (.int p5), .val (.int (3 : Int32)), .val (.int vi55), .val (.int vi56), .val (.int vi57), .val (.int vi58), .val (.ref b59), .val (.int z73_S0)] [(.int (3 : Int32))]))
        refine own_go (fun t_ k => XS.iconst X74.here hx rfl (hb hby at_122) k) ?_
        show WP p e below _ (T74.setTop (mkF m 123 #[.val (.int p1), .val (.int p2), .val (.int p3), .val (.int p4), .val (.int p5), .val (.int (3 : Int32)), .val (.int vi55), .val (.int vi56), .val (.int vi57), .val (.int vi58), .val (.ref b59), .val (.int z73_S0)] [(.int (1 : Int32)), (.int (3 : Int32))]))
        have hc123_75 : ((1 : Int32) < (3 : Int32)) := by decide
        refine own_go (fun t_ k => XS.icmpNo X74.here hx rfl (hb hby at_123) rfl (tlt hc123_75).2.2.2 k) ?_
        show WP p e below _ (T74.setTop (mkF m 126 #[.val (.int p1), .val (.int p2), .val (.int p3), .val (.int p4), .val (.int p5), .val (.int (3 : Int32)), .val (.int vi55), .val (.int vi56), .val (.int vi57), .val (.int vi58), .val (.ref b59), .val (.int z73_S0)] []))
        refine own_go (fun t_ k => XS.iload X74.here hx rfl (hb hby at_126) rfl k) ?_
        show WP p e below _ (T74.setTop (mkF m 128 #[.val (.int p1), .val (.int p2), .val (.int p3), .val (.int p4), .val (.int p5), .val (.int (3 : Int32)), .val (.int vi55), .val (.int vi56), .val (.int vi57), .val (.int vi58), .val (.ref b59), .val (.int z73_S0)] [(.int z73_S0)]))
        have J78 : ∀ (T78 : State) (ls78 : List Loc) (X78 : Stand p l e room_1 s m #[(.int p1), (.int p2), (.int p3), (.int p4), (.int p5)] below meth c T78 ls78 3 65539) (N78 : Fr n0 ls78) (e78 : T78.heap = T70.heap) (z77_S0 : Int32) (hz77_S0 : z77_S0 = (if z73_S0 = (0 : Int32) then (0 : Int32) else (if ((vi56.toInt8.toInt32).toInt8.toInt32) = vi56 then (1 : Int32) else (0 : Int32)))), WP p e below (GG (Q0 n0) s room_1.cells room_1.slots) (T78.setTop (mkF m 147 #[.val (.int p1), .val (.int p2), .val (.int p3), .val (.int p4), .val (.int p5), .val (.int (3 : Int32)), .val (.int vi55), .val (.int vi56), .val (.int vi57), .val (.int vi58), .val (.ref b59), .val (.int z73_S0)] [(.int z77_S0)])) := by
          intro T78 ls78 X78 N78 e78 z77_S0 hz77_S0
          show WP p e below _ (T78.setTop (mkF m 147 #[.val (.int p1), .val (.int p2), .val (.int p3), .val (.int p4), .val (.int p5), .val (.int (3 : Int32)), .val (.int vi55), .val (.int vi56), .val (.int vi57), .val (.int vi58), .val (.ref b59), .val (.int z73_S0)] [(.int z77_S0)]))
          refine own_go (fun t_ k => XS.istore X78.here hx rfl (hb hby at_147) rfl (l' := #[.val (.int p1), .val (.int p2), .val (.int p3), .val (.int p4), .val (.int p5), .val (.int (3 : Int32)), .val (.int vi55), .val (.int vi56), .val (.int vi57), .val (.int vi58), .val (.ref b59), .val (.int z77_S0)]) rfl k) ?_
          show WP p e below _ (T78.setTop (mkF m 149 #[.val (.int p1), .val (.int p2), .val (.int p3), .val (.int p4), .val (.int p5), .val (.int (3 : Int32)), .val (.int vi55), .val (.int vi56), .val (.int vi57), .val (.int vi58), .val (.ref b59), .val (.int z77_S0)] []))
          refine own_go (fun t_ k => XS.iload X78.here hx rfl (hb hby at_149) rfl k) ?_
          show WP p e below _ (T78.setTop (mkF m 151 #[.val (.int p1), .val (.int p2), .val (.int p3), .val (.int p4), .val (.int p5), .val (.int (3 : Int32)), .val (.int vi55), .val (.int vi56), .val (.int vi57), .val (.int vi58), .val (.ref b59), .val (.int z77_S0)] [(.int (3 : Int32))]))
          refine own_go (fun t_ k => XS.iconst X78.here hx rfl (hb hby at_151) k) ?_
          show WP p e below _ (T78.setTop (mkF m 152 #[.val (.int p1), .val (.int p2), .val (.int p3), .val (.int p4), .val (.int p5), .val (.int (3 : Int32)), .val (.int vi55), .val (.int vi56), .val (.int vi57), .val (.int vi58), .val (.ref b59), .val (.int z77_S0)] [(.int (2 : Int32)), (.int (3 : Int32))]))
          have hc152_79 : ((2 : Int32) < (3 : Int32)) := by decide
          refine own_go (fun t_ k => XS.icmpNo X78.here hx rfl (hb hby at_152) rfl (tlt hc152_79).2.2.2 k) ?_
          show WP p e below _ (T78.setTop (mkF m 155 #[.val (.int p1), .val (.int p2), .val (.int p3), .val (.int p4), .val (.int p5), .val (.int (3 : Int32)), .val (.int vi55), .val (.int vi56), .val (.int vi57), .val (.int vi58), .val (.ref b59), .val (.int z77_S0)] []))
          refine own_go (fun t_ k => XS.iload X78.here hx rfl (hb hby at_155) rfl k) ?_
          show WP p e below _ (T78.setTop (mkF m 157 #[.val (.int p1), .val (.int p2), .val (.int p3), .val (.int p4), .val (.int p5), .val (.int (3 : Int32)), .val (.int vi55), .val (.int vi56), .val (.int vi57), .val (.int vi58), .val (.ref b59), .val (.int z77_S0)] [(.int z77_S0)]))
          have J82 : ∀ (T82 : State) (ls82 : List Loc) (X82 : Stand p l e room_1 s m #[(.int p1), (.int p2), (.int p3), (.int p4), (.int p5)] below meth c T82 ls82 3 65539) (N82 : Fr n0 ls82) (e82 : T82.heap = T70.heap) (z81_S0 : Int32) (hz81_S0 : z81_S0 = (if z77_S0 = (0 : Int32) then (0 : Int32) else (if ((vi57.toInt8.toInt32).toInt8.toInt32) = vi57 then (1 : Int32) else (0 : Int32)))), WP p e below (GG (Q0 n0) s room_1.cells room_1.slots) (T82.setTop (mkF m 178 #[.val (.int p1), .val (.int p2), .val (.int p3), .val (.int p4), .val (.int p5), .val (.int (3 : Int32)), .val (.int vi55), .val (.int vi56), .val (.int vi57), .val (.int vi58), .val (.ref b59), .val (.int z77_S0)] [(.int z81_S0)])) := by
            intro T82 ls82 X82 N82 e82 z81_S0 hz81_S0
            show WP p e below _ (T82.setTop (mkF m 178 #[.val (.int p1), .val (.int p2), .val (.int p3), .val (.int p4), .val (.int p5), .val (.int (3 : Int32)), .val (.int vi55), .val (.int vi56), .val (.int vi57), .val (.int vi58), .val (.ref b59), .val (.int z77_S0)] [(.int z81_S0)]))
            refine own_go (fun t_ k => XS.istore X82.here hx rfl (hb hby at_178) rfl (l' := #[.val (.int p1), .val (.int p2), .val (.int p3), .val (.int p4), .val (.int p5), .val (.int (3 : Int32)), .val (.int vi55), .val (.int vi56), .val (.int vi57), .val (.int vi58), .val (.ref b59), .val (.int z81_S0)]) rfl k) ?_
            show WP p e below _ (T82.setTop (mkF m 180 #[.val (.int p1), .val (.int p2), .val (.int p3), .val (.int p4), .val (.int p5), .val (.int (3 : Int32)), .val (.int vi55), .val (.int vi56), .val (.int vi57), .val (.int vi58), .val (.ref b59), .val (.int z81_S0)] []))
            refine own_go (fun t_ k => XS.iload X82.here hx rfl (hb hby at_180) rfl k) ?_
            show WP p e below _ (T82.setTop (mkF m 182 #[.val (.int p1), .val (.int p2), .val (.int p3), .val (.int p4), .val (.int p5), .val (.int (3 : Int32)), .val (.int vi55), .val (.int vi56), .val (.int vi57), .val (.int vi58), .val (.ref b59), .val (.int z81_S0)] [(.int (3 : Int32))]))
            refine own_go (fun t_ k => XS.iconst X82.here hx rfl (hb hby at_182) k) ?_
            show WP p e below _ (T82.setTop (mkF m 183 #[.val (.int p1), .val (.int p2), .val (.int p3), .val (.int p4), .val (.int p5), .val (.int (3 : Int32)), .val (.int vi55), .val (.int vi56), .val (.int vi57), .val (.int vi58), .val (.ref b59), .val (.int z81_S0)] [(.int (3 : Int32)), (.int (3 : Int32))]))
            have hc183_83 : ¬ ((3 : Int32) < (3 : Int32)) := by decide
            refine own_go (fun t_ k => XS.icmpYes X82.here hx rfl (pc0 := 183) (pc' := 211) rfl (hb hby at_183) rfl (flt hc183_83).2.2.2 (by decide) (by decide) k) ?_
            show WP p e below _ (T82.setTop (mkF m 211 #[.val (.int p1), .val (.int p2), .val (.int p3), .val (.int p4), .val (.int p5), .val (.int (3 : Int32)), .val (.int vi55), .val (.int vi56), .val (.int vi57), .val (.int vi58), .val (.ref b59), .val (.int z81_S0)] []))
            refine own_go (fun t_ k => XS.iload X82.here hx rfl (hb hby at_211) rfl k) ?_
            show WP p e below _ (T82.setTop (mkF m 213 #[.val (.int p1), .val (.int p2), .val (.int p3), .val (.int p4), .val (.int p5), .val (.int (3 : Int32)), .val (.int vi55), .val (.int vi56), .val (.int vi57), .val (.int vi58), .val (.ref b59), .val (.int z81_S0)] [(.int z81_S0)]))
            exact own_retZ X82 hx Bd.notSynchronized Bd.returns (hb hby at_213) (by rw [hz81_S0]; (repeat' split); all_goals first | exact Or.inl rfl | exact Or.inr rfl) (show Q0 n0 _ _ _ from ⟨congrArg (fun z => some (Value.int z)) (own_law_3 (p1 := p1) (p2 := p2) (p3 := p3) (p4 := p4) (p5 := p5) he1 he55 he56 he57 he58 he63 hz65_S0 hz73_S0 hz77_S0 hz81_S0), N82⟩) (by decide) (by decide)
          by_cases hc157_80 : z77_S0 = (0 : Int32)
          · refine own_go (fun t_ k => XS.ifYes X78.here hx rfl (pc0 := 157) (pc' := 177) rfl (hb hby at_157) rfl ((if0 _ _).trans (teq hc157_80).1) (by decide) (by decide) k) ?_
            show WP p e below _ (T78.setTop (mkF m 177 #[.val (.int p1), .val (.int p2), .val (.int p3), .val (.int p4), .val (.int p5), .val (.int (3 : Int32)), .val (.int vi55), .val (.int vi56), .val (.int vi57), .val (.int vi58), .val (.ref b59), .val (.int z77_S0)] []))
            refine own_go (fun t_ k => XS.iconst X78.here hx rfl (hb hby at_177) k) ?_
            show WP p e below _ (T78.setTop (mkF m 178 #[.val (.int p1), .val (.int p2), .val (.int p3), .val (.int p4), .val (.int p5), .val (.int (3 : Int32)), .val (.int vi55), .val (.int vi56), .val (.int vi57), .val (.int vi58), .val (.ref b59), .val (.int z77_S0)] [(.int (0 : Int32))]))
            exact J82 T78 _ X78 N78 e78 _ (by rw [if_pos hc157_80])
          · refine own_go (fun t_ k => XS.ifNo X78.here hx rfl (hb hby at_157) rfl ((if0 _ _).trans (feq hc157_80).1) k) ?_
            show WP p e below _ (T78.setTop (mkF m 160 #[.val (.int p1), .val (.int p2), .val (.int p3), .val (.int p4), .val (.int p5), .val (.int (3 : Int32)), .val (.int vi55), .val (.int vi56), .val (.int vi57), .val (.int vi58), .val (.ref b59), .val (.int z77_S0)] []))
            refine own_go (fun t_ k => XS.aload X78.here hx rfl (hb hby at_160) rfl rfl k) ?_
            show WP p e below _ (T78.setTop (mkF m 162 #[.val (.int p1), .val (.int p2), .val (.int p3), .val (.int p4), .val (.int p5), .val (.int (3 : Int32)), .val (.int vi55), .val (.int vi56), .val (.int vi57), .val (.int vi58), .val (.ref b59), .val (.int z77_S0)] [(.ref b59)]))
            refine own_go (fun t_ k => X78.ldc2Long hx hown (mvT hZ (hw _ (List.mem_of_getElem? (i := 29) rfl))) (g := (mkF m 162 #[.val (.int p1), .val (.int p2), .val (.int p3), .val (.int p4), .val (.int p5), .val (.int (3 : Int32)), .val (.int vi55), .val (.int vi56), .val (.int vi57), .val (.int vi58), .val (.ref b59), .val (.int z77_S0)] [(.ref b59)])) rfl (hb hby at_162) _ k) ?_
            show WP p e below _ (T78.setTop (mkF m 165 #[.val (.int p1), .val (.int p2), .val (.int p3), .val (.int p4), .val (.int p5), .val (.int (3 : Int32)), .val (.int vi55), .val (.int vi56), .val (.int vi57), .val (.int vi58), .val (.ref b59), .val (.int z77_S0)] [(.long (2 : Int64)), (.ref b59)]))
            obtain ⟨cq84, kq84, q84a, q84b, q84c⟩ := isOf (T := T78) hZ e78 P70.1
            obtain ⟨_, _, ⟨T84, L84, k84, n84⟩, -, X84, ⟨Lc84, hQ84, l84, y84, z84⟩, st84⟩ := X78.virtualBack hx (y := (⟨"com/example/vestry/vestry/ByteBlocks", "at", "(J)B"⟩ : MethodName)) (z := (⟨"com/example/vestry/vestry/ByteBlocks", "at", "(J)B"⟩ : MethodName)) hown (mvT hZ (hw _ (List.mem_of_getElem? (i := 24) rfl))) (mvT hZ (hw _ (List.mem_of_getElem? (i := 25) rfl))) (notFace_of_selects (args := #[]) (mvT hZ (hw _ (List.mem_of_getElem? (i := 27) rfl)))) (mvT hZ (hw _ (List.mem_of_getElem? (i := 27) rfl))) (mvT hZ (hw _ (List.mem_of_getElem? (i := 26) rfl))) (by decide) (backOf (W := 0) (rm_at2 l Z a0 hw [] b59 (2 : Int64) t60 kk60 b61 kb61 (3 : Int64) [(vi55.toInt8.toInt32), (vi56.toInt8.toInt32), (vi57.toInt8.toInt32)] T70.heap n0 P70 rfl) hZ (hw _ (List.mem_of_getElem? (i := 28) rfl)) (hw _ (List.mem_of_getElem? (i := 2) rfl)) (by decide) (by decide)) q84a q84c (g := (mkF m 165 #[.val (.int p1), .val (.int p2), .val (.int p3), .val (.int p4), .val (.int p5), .val (.int (3 : Int32)), .val (.int vi55), .val (.int vi56), .val (.int vi57), .val (.int vi58), .val (.ref b59), .val (.int z77_S0)] [(.long (2 : Int64)), (.ref b59)])) rfl (by rw [hml]; rfl) (Steps.refl _) (argsL := [(.long (2 : Int64))]) (rest := []) (lenOf pd_2 rfl) rfl (by show 2 * 0 + _ ≤ _; exact Nat.le_of_eq rfl) (hb hby at_165) (fun _ _ => ⟨rfl, e78, (by decide : 3 + 0 ≤ _), (by decide : 65539 + 0 ≤ _)⟩)
            dsimp only [Pt.U, Pt.locs, Pt.cells, Pt.slots] at X84 l84 y84 z84 st84 hQ84
            subst l84 y84 z84
            obtain ⟨rfl, N84q, e84⟩ := hQ84
            have N84 := Fr.app N78 N84q
            replace X84 : Stand p l e room_1 s m _ below meth c T84 _ 3 65539 := X84
            refine own_go (fun t_ k => st84.trans k) ?_
            show WP p e below _ (T84.setTop (mkF m 168 #[.val (.int p1), .val (.int p2), .val (.int p3), .val (.int p4), .val (.int p5), .val (.int (3 : Int32)), .val (.int vi55), .val (.int vi56), .val (.int vi57), .val (.int vi58), .val (.ref b59), .val (.int z77_S0)] [(.int ((vi57.toInt8.toInt32).toInt8.toInt32))]))
            refine own_go (fun t_ k => XS.iload X84.here hx rfl (hb hby at_168) rfl k) ?_
            show WP p e below _ (T84.setTop (mkF m 170 #[.val (.int p1), .val (.int p2), .val (.int p3), .val (.int p4), .val (.int p5), .val (.int (3 : Int32)), .val (.int vi55), .val (.int vi56), .val (.int vi57), .val (.int vi58), .val (.ref b59), .val (.int z77_S0)] [(.int vi57), (.int ((vi57.toInt8.toInt32).toInt8.toInt32))]))
            by_cases hc170_85 : ((vi57.toInt8.toInt32).toInt8.toInt32) = vi57
            · refine own_go (fun t_ k => XS.icmpNo X84.here hx rfl (hb hby at_170) rfl (teq hc170_85).2 k) ?_
              show WP p e below _ (T84.setTop (mkF m 173 #[.val (.int p1), .val (.int p2), .val (.int p3), .val (.int p4), .val (.int p5), .val (.int (3 : Int32)), .val (.int vi55), .val (.int vi56), .val (.int vi57), .val (.int vi58), .val (.ref b59), .val (.int z77_S0)] []))
              refine own_go (fun t_ k => XS.iconst X84.here hx rfl (hb hby at_173) k) ?_
              show WP p e below _ (T84.setTop (mkF m 174 #[.val (.int p1), .val (.int p2), .val (.int p3), .val (.int p4), .val (.int p5), .val (.int (3 : Int32)), .val (.int vi55), .val (.int vi56), .val (.int vi57), .val (.int vi58), .val (.ref b59), .val (.int z77_S0)] [(.int (1 : Int32))]))
              refine own_go (fun t_ k => XS.goto X84.here hx rfl (pc0 := 174) (pc' := 178) rfl (hb hby at_174) (by decide) (by decide) k) ?_
              show WP p e below _ (T84.setTop (mkF m 178 #[.val (.int p1), .val (.int p2), .val (.int p3), .val (.int p4), .val (.int p5), .val (.int (3 : Int32)), .val (.int vi55), .val (.int vi56), .val (.int vi57), .val (.int vi58), .val (.ref b59), .val (.int z77_S0)] [(.int (1 : Int32))]))
              exact J82 T84 _ X84 N84 e84 _ (by rw [if_neg hc157_80, if_pos hc170_85])
            · refine own_go (fun t_ k => XS.icmpYes X84.here hx rfl (pc0 := 170) (pc' := 177) rfl (hb hby at_170) rfl (feq hc170_85).2 (by decide) (by decide) k) ?_
              show WP p e below _ (T84.setTop (mkF m 177 #[.val (.int p1), .val (.int p2), .val (.int p3), .val (.int p4), .val (.int p5), .val (.int (3 : Int32)), .val (.int vi55), .val (.int vi56), .val (.int vi57), .val (.int vi58), .val (.ref b59), .val (.int z77_S0)] []))
              refine own_go (fun t_ k => XS.iconst X84.here hx rfl (hb hby at_177) k) ?_
              show WP p e below _ (T84.setTop (mkF m 178 #[.val (.int p1), .val (.int p2), .val (.int p3), .val (.int p4), .val (.int p5), .val (.int (3 : Int32)), .val (.int vi55), .val (.int vi56), .val (.int vi57), .val (.int vi58), .val (.ref b59), .val (.int z77_S0)] [(.int (0 : Int32))]))
              exact J82 T84 _ X84 N84 e84 _ (by rw [if_neg hc157_80, if_neg hc170_85])
        by_cases hc128_76 : z73_S0 = (0 : Int32)
        · refine own_go (fun t_ k => XS.ifYes X74.here hx rfl (pc0 := 128) (pc' := 146) rfl (hb hby at_128) rfl ((if0 _ _).trans (teq hc128_76).1) (by decide) (by decide) k) ?_
          show WP p e below _ (T74.setTop (mkF m 146 #[.val (.int p1), .val (.int p2), .val (.int p3), .val (.int p4), .val (.int p5), .val (.int (3 : Int32)), .val (.int vi55), .val (.int vi56), .val (.int vi57), .val (.int vi58), .val (.ref b59), .val (.int z73_S0)] []))
          refine own_go (fun t_ k => XS.iconst X74.here hx rfl (hb hby at_146) k) ?_
          show WP p e below _ (T74.setTop (mkF m 147 #[.val (.int p1), .val (.int p2), .val (.int p3), .val (.int p4), .val (.int p5), .val (.int (3 : Int32)), .val (.int vi55), .val (.int vi56), .val (.int vi57), .val (.int vi58), .val (.ref b59), .val (.int z73_S0)] [(.int (0 : Int32))]))
          exact J78 T74 _ X74 N74 e74 _ (by rw [if_pos hc128_76])
        · refine own_go (fun t_ k => XS.ifNo X74.here hx rfl (hb hby at_128) rfl ((if0 _ _).trans (feq hc128_76).1) k) ?_
          show WP p e below _ (T74.setTop (mkF m 131 #[.val (.int p1), .val (.int p2), .val (.int p3), .val (.int p4), .val (.int p5), .val (.int (3 : Int32)), .val (.int vi55), .val (.int vi56), .val (.int vi57), .val (.int vi58), .val (.ref b59), .val (.int z73_S0)] []))
          refine own_go (fun t_ k => XS.aload X74.here hx rfl (hb hby at_131) rfl rfl k) ?_
          show WP p e below _ (T74.setTop (mkF m 133 #[.val (.int p1), .val (.int p2), .val (.int p3), .val (.int p4), .val (.int p5), .val (.int (3 : Int32)), .val (.int vi55), .val (.int vi56), .val (.int vi57), .val (.int vi58), .val (.ref b59), .val (.int z73_S0)] [(.ref b59)]))
          refine own_go (fun t_ k => XS.lconst X74.here hx rfl (hb hby at_133) k) ?_
          show WP p e below _ (T74.setTop (mkF m 134 #[.val (.int p1), .val (.int p2), .val (.int p3), .val (.int p4), .val (.int p5), .val (.int (3 : Int32)), .val (.int vi55), .val (.int vi56), .val (.int vi57), .val (.int vi58), .val (.ref b59), .val (.int z73_S0)] [(.long (1 : Int64)), (.ref b59)]))
          obtain ⟨cq86, kq86, q86a, q86b, q86c⟩ := isOf (T := T74) hZ e74 P70.1
          obtain ⟨_, _, ⟨T86, L86, k86, n86⟩, -, X86, ⟨Lc86, hQ86, l86, y86, z86⟩, st86⟩ := X74.virtualBack hx (y := (⟨"com/example/vestry/vestry/ByteBlocks", "at", "(J)B"⟩ : MethodName)) (z := (⟨"com/example/vestry/vestry/ByteBlocks", "at", "(J)B"⟩ : MethodName)) hown (mvT hZ (hw _ (List.mem_of_getElem? (i := 24) rfl))) (mvT hZ (hw _ (List.mem_of_getElem? (i := 25) rfl))) (notFace_of_selects (args := #[]) (mvT hZ (hw _ (List.mem_of_getElem? (i := 27) rfl)))) (mvT hZ (hw _ (List.mem_of_getElem? (i := 27) rfl))) (mvT hZ (hw _ (List.mem_of_getElem? (i := 26) rfl))) (by decide) (backOf (W := 0) (rm_at1 l Z a0 hw [] b59 (1 : Int64) t60 kk60 b61 kb61 (3 : Int64) [(vi55.toInt8.toInt32), (vi56.toInt8.toInt32), (vi57.toInt8.toInt32)] T70.heap n0 P70 rfl) hZ (hw _ (List.mem_of_getElem? (i := 28) rfl)) (hw _ (List.mem_of_getElem? (i := 2) rfl)) (by decide) (by decide)) q86a q86c (g := (mkF m 134 #[.val (.int p1), .val (.int p2), .val (.int p3), .val (.int p4), .val (.int p5), .val (.int (3 : Int32)), .val (.int vi55), .val (.int vi56), .val (.int vi57), .val (.int vi58), .val (.ref b59), .val (.int z73_S0)] [(.long (1 : Int64)), (.ref b59)])) rfl (by rw [hml]; rfl) (Steps.refl _) (argsL := [(.long (1 : Int64))]) (rest := []) (lenOf pd_2 rfl) rfl (by show 2 * 0 + _ ≤ _; exact Nat.le_of_eq rfl) (hb hby at_134) (fun _ _ => ⟨rfl, e74, (by decide : 3 + 0 ≤ _), (by decide : 65539 + 0 ≤ _)⟩)
          dsimp only [Pt.U, Pt.locs, Pt.cells, Pt.slots] at X86 l86 y86 z86 st86 hQ86
          subst l86 y86 z86
          obtain ⟨rfl, N86q, e86⟩ := hQ86
          have N86 := Fr.app N74 N86q
          replace X86 : Stand p l e room_1 s m _ below meth c T86 _ 3 65539 := X86
          refine own_go (fun t_ k => st86.trans k) ?_
          show WP p e below _ (T86.setTop (mkF m 137 #[.val (.int p1), .val (.int p2), .val (.int p3), .val (.int p4), .val (.int p5), .val (.int (3 : Int32)), .val (.int vi55), .val (.int vi56), .val (.int vi57), .val (.int vi58), .val (.ref b59), .val (.int z73_S0)] [(.int ((vi56.toInt8.toInt32).toInt8.toInt32))]))
          refine own_go (fun t_ k => XS.iload X86.here hx rfl (hb hby at_137) rfl k) ?_
          show WP p e below _ (T86.setTop (mkF m 139 #[.val (.int p1), .val (.int p2), .val (.int p3), .val (.int p4), .val (.int p5), .val (.int (3 : Int32)), .val (.int vi55), .val (.int vi56), .val (.int vi57), .val (.int vi58), .val (.ref b59), .val (.int z73_S0)] [(.int vi56), (.int ((vi56.toInt8.toInt32).toInt8.toInt32))]))
          by_cases hc139_87 : ((vi56.toInt8.toInt32).toInt8.toInt32) = vi56
          · refine own_go (fun t_ k => XS.icmpNo X86.here hx rfl (hb hby at_139) rfl (teq hc139_87).2 k) ?_
            show WP p e below _ (T86.setTop (mkF m 142 #[.val (.int p1), .val (.int p2), .val (.int p3), .val (.int p4), .val (.int p5), .val (.int (3 : Int32)), .val (.int vi55), .val (.int vi56), .val (.int vi57), .val (.int vi58), .val (.ref b59), .val (.int z73_S0)] []))
            refine own_go (fun t_ k => XS.iconst X86.here hx rfl (hb hby at_142) k) ?_
            show WP p e below _ (T86.setTop (mkF m 143 #[.val (.int p1), .val (.int p2), .val (.int p3), .val (.int p4), .val (.int p5), .val (.int (3 : Int32)), .val (.int vi55), .val (.int vi56), .val (.int vi57), .val (.int vi58), .val (.ref b59), .val (.int z73_S0)] [(.int (1 : Int32))]))
            refine own_go (fun t_ k => XS.goto X86.here hx rfl (pc0 := 143) (pc' := 147) rfl (hb hby at_143) (by decide) (by decide) k) ?_
            show WP p e below _ (T86.setTop (mkF m 147 #[.val (.int p1), .val (.int p2), .val (.int p3), .val (.int p4), .val (.int p5), .val (.int (3 : Int32)), .val (.int vi55), .val (.int vi56), .val (.int vi57), .val (.int vi58), .val (.ref b59), .val (.int z73_S0)] [(.int (1 : Int32))]))
            exact J78 T86 _ X86 N86 e86 _ (by rw [if_neg hc128_76, if_pos hc139_87])
          · refine own_go (fun t_ k => XS.icmpYes X86.here hx rfl (pc0 := 139) (pc' := 146) rfl (hb hby at_139) rfl (feq hc139_87).2 (by decide) (by decide) k) ?_
            show WP p e below _ (T86.setTop (mkF m 146 #[.val (.int p1), .val (.int p2), .val (.int p3), .val (.int p4), .val (.int p5), .val (.int (3 : Int32)), .val (.int vi55), .val (.int vi56), .val (.int vi57), .val (.int vi58), .val (.ref b59), .val (.int z73_S0)] []))
            refine own_go (fun t_ k => XS.iconst X86.here hx rfl (hb hby at_146) k) ?_
            show WP p e below _ (T86.setTop (mkF m 147 #[.val (.int p1), .val (.int p2), .val (.int p3), .val (.int p4), .val (.int p5), .val (.int (3 : Int32)), .val (.int vi55), .val (.int vi56), .val (.int vi57), .val (.int vi58), .val (.ref b59), .val (.int z73_S0)] [(.int (0 : Int32))]))
            exact J78 T86 _ X86 N86 e86 _ (by rw [if_neg hc128_76, if_neg hc139_87])
      by_cases hc99_72 : z65_S0 = (0 : Int32)
      · refine own_go (fun t_ k => XS.ifYes X70.here hx rfl (pc0 := 99) (pc' := 117) rfl (hb hby at_99) rfl ((if0 _ _).trans (teq hc99_72).1) (by decide) (by decide) k) ?_
        show WP p e below _ (T70.setTop (mkF m 117 #[.val (.int p1), .val (.int p2), .val (.int p3), .val (.int p4), .val (.int p5), .val (.int (3 : Int32)), .val (.int vi55), .val (.int vi56), .val (.int vi57), .val (.int vi58), .val (.ref b59), .val (.int z65_S0)] []))
        refine own_go (fun t_ k => XS.iconst X70.here hx rfl (hb hby at_117) k) ?_
        show WP p e below _ (T70.setTop (mkF m 118 #[.val (.int p1), .val (.int p2), .val (.int p3), .val (.int p4), .val (.int p5), .val (.int (3 : Int32)), .val (.int vi55), .val (.int vi56), .val (.int vi57), .val (.int vi58), .val (.ref b59), .val (.int z65_S0)] [(.int (0 : Int32))]))
        exact J74 T70 _ X70 N70 rfl _ (by rw [if_pos hc99_72])
      · refine own_go (fun t_ k => XS.ifNo X70.here hx rfl (hb hby at_99) rfl ((if0 _ _).trans (feq hc99_72).1) k) ?_
        show WP p e below _ (T70.setTop (mkF m 102 #[.val (.int p1), .val (.int p2), .val (.int p3), .val (.int p4), .val (.int p5), .val (.int (3 : Int32)), .val (.int vi55), .val (.int vi56), .val (.int vi57), .val (.int vi58), .val (.ref b59), .val (.int z65_S0)] []))
        refine own_go (fun t_ k => XS.aload X70.here hx rfl (hb hby at_102) rfl rfl k) ?_
        show WP p e below _ (T70.setTop (mkF m 104 #[.val (.int p1), .val (.int p2), .val (.int p3), .val (.int p4), .val (.int p5), .val (.int (3 : Int32)), .val (.int vi55), .val (.int vi56), .val (.int vi57), .val (.int vi58), .val (.ref b59), .val (.int z65_S0)] [(.ref b59)]))
        refine own_go (fun t_ k => XS.lconst X70.here hx rfl (hb hby at_104) k) ?_
        show WP p e below _ (T70.setTop (mkF m 105 #[.val (.int p1), .val (.int p2), .val (.int p3), .val (.int p4), .val (.int p5), .val (.int (3 : Int32)), .val (.int vi55), .val (.int vi56), .val (.int vi57), .val (.int vi58), .val (.ref b59), .val (.int z65_S0)] [(.long (0 : Int64)), (.ref b59)]))
        obtain ⟨cq88, kq88, q88a, q88b, q88c⟩ := isOf (T := T70) hZ rfl P70.1
        obtain ⟨_, _, ⟨T88, L88, k88, n88⟩, -, X88, ⟨Lc88, hQ88, l88, y88, z88⟩, st88⟩ := X70.virtualBack hx (y := (⟨"com/example/vestry/vestry/ByteBlocks", "at", "(J)B"⟩ : MethodName)) (z := (⟨"com/example/vestry/vestry/ByteBlocks", "at", "(J)B"⟩ : MethodName)) hown (mvT hZ (hw _ (List.mem_of_getElem? (i := 24) rfl))) (mvT hZ (hw _ (List.mem_of_getElem? (i := 25) rfl))) (notFace_of_selects (args := #[]) (mvT hZ (hw _ (List.mem_of_getElem? (i := 27) rfl)))) (mvT hZ (hw _ (List.mem_of_getElem? (i := 27) rfl))) (mvT hZ (hw _ (List.mem_of_getElem? (i := 26) rfl))) (by decide) (backOf (W := 0) (rm_at0 l Z a0 hw [] b59 (0 : Int64) t60 kk60 b61 kb61 (3 : Int64) [(vi55.toInt8.toInt32), (vi56.toInt8.toInt32), (vi57.toInt8.toInt32)] T70.heap n0 P70 rfl) hZ (hw _ (List.mem_of_getElem? (i := 28) rfl)) (hw _ (List.mem_of_getElem? (i := 2) rfl)) (by decide) (by decide)) q88a q88c (g := (mkF m 105 #[.val (.int p1), .val (.int p2), .val (.int p3), .val (.int p4), .val (.int p5), .val (.int (3 : Int32)), .val (.int vi55), .val (.int vi56), .val (.int vi57), .val (.int vi58), .val (.ref b59), .val (.int z65_S0)] [(.long (0 : Int64)), (.ref b59)])) rfl (by rw [hml]; rfl) (Steps.refl _) (argsL := [(.long (0 : Int64))]) (rest := []) (lenOf pd_2 rfl) rfl (by show 2 * 0 + _ ≤ _; exact Nat.le_of_eq rfl) (hb hby at_105) (fun _ _ => ⟨rfl, rfl, (by decide : 3 + 0 ≤ _), (by decide : 65539 + 0 ≤ _)⟩)
        dsimp only [Pt.U, Pt.locs, Pt.cells, Pt.slots] at X88 l88 y88 z88 st88 hQ88
        subst l88 y88 z88
        obtain ⟨rfl, N88q, e88⟩ := hQ88
        have N88 := Fr.app N70 N88q
        replace X88 : Stand p l e room_1 s m _ below meth c T88 _ 3 65539 := X88
        refine own_go (fun t_ k => st88.trans k) ?_
        show WP p e below _ (T88.setTop (mkF m 108 #[.val (.int p1), .val (.int p2), .val (.int p3), .val (.int p4), .val (.int p5), .val (.int (3 : Int32)), .val (.int vi55), .val (.int vi56), .val (.int vi57), .val (.int vi58), .val (.ref b59), .val (.int z65_S0)] [(.int ((vi55.toInt8.toInt32).toInt8.toInt32))]))
        refine own_go (fun t_ k => XS.iload X88.here hx rfl (hb hby at_108) rfl k) ?_
        show WP p e below _ (T88.setTop (mkF m 110 #[.val (.int p1), .val (.int p2), .val (.int p3), .val (.int p4), .val (.int p5), .val (.int (3 : Int32)), .val (.int vi55), .val (.int vi56), .val (.int vi57), .val (.int vi58), .val (.ref b59), .val (.int z65_S0)] [(.int vi55), (.int ((vi55.toInt8.toInt32).toInt8.toInt32))]))
        by_cases hc110_89 : ((vi55.toInt8.toInt32).toInt8.toInt32) = vi55
        · refine own_go (fun t_ k => XS.icmpNo X88.here hx rfl (hb hby at_110) rfl (teq hc110_89).2 k) ?_
          show WP p e below _ (T88.setTop (mkF m 113 #[.val (.int p1), .val (.int p2), .val (.int p3), .val (.int p4), .val (.int p5), .val (.int (3 : Int32)), .val (.int vi55), .val (.int vi56), .val (.int vi57), .val (.int vi58), .val (.ref b59), .val (.int z65_S0)] []))
          refine own_go (fun t_ k => XS.iconst X88.here hx rfl (hb hby at_113) k) ?_
          show WP p e below _ (T88.setTop (mkF m 114 #[.val (.int p1), .val (.int p2), .val (.int p3), .val (.int p4), .val (.int p5), .val (.int (3 : Int32)), .val (.int vi55), .val (.int vi56), .val (.int vi57), .val (.int vi58), .val (.ref b59), .val (.int z65_S0)] [(.int (1 : Int32))]))
          refine own_go (fun t_ k => XS.goto X88.here hx rfl (pc0 := 114) (pc' := 118) rfl (hb hby at_114) (by decide) (by decide) k) ?_
          show WP p e below _ (T88.setTop (mkF m 118 #[.val (.int p1), .val (.int p2), .val (.int p3), .val (.int p4), .val (.int p5), .val (.int (3 : Int32)), .val (.int vi55), .val (.int vi56), .val (.int vi57), .val (.int vi58), .val (.ref b59), .val (.int z65_S0)] [(.int (1 : Int32))]))
          exact J74 T88 _ X88 N88 e88 _ (by rw [if_neg hc99_72, if_pos hc110_89])
        · refine own_go (fun t_ k => XS.icmpYes X88.here hx rfl (pc0 := 110) (pc' := 117) rfl (hb hby at_110) rfl (feq hc110_89).2 (by decide) (by decide) k) ?_
          show WP p e below _ (T88.setTop (mkF m 117 #[.val (.int p1), .val (.int p2), .val (.int p3), .val (.int p4), .val (.int p5), .val (.int (3 : Int32)), .val (.int vi55), .val (.int vi56), .val (.int vi57), .val (.int vi58), .val (.ref b59), .val (.int z65_S0)] []))
          refine own_go (fun t_ k => XS.iconst X88.here hx rfl (hb hby at_117) k) ?_
          show WP p e below _ (T88.setTop (mkF m 118 #[.val (.int p1), .val (.int p2), .val (.int p3), .val (.int p4), .val (.int p5), .val (.int (3 : Int32)), .val (.int vi55), .val (.int vi56), .val (.int vi57), .val (.int vi58), .val (.ref b59), .val (.int z65_S0)] [(.int (0 : Int32))]))
          exact J74 T88 _ X88 N88 e88 _ (by rw [if_neg hc99_72, if_neg hc110_89])
    by_cases hc48_64 : vi63 = vi55
    · refine own_go (fun t_ k => XS.icmpNo X62.here hx rfl (hb hby at_48) rfl (teq hc48_64).2 k) ?_
      show WP p e below _ (T62.setTop (mkF m 51 #[.val (.int p1), .val (.int p2), .val (.int p3), .val (.int p4), .val (.int p5), .val (.int (3 : Int32)), .val (.int vi55), .val (.int vi56), .val (.int vi57), .val (.int vi58), .val (.ref b59), .unset] []))
      refine own_go (fun t_ k => XS.iconst X62.here hx rfl (hb hby at_51) k) ?_
      show WP p e below _ (T62.setTop (mkF m 52 #[.val (.int p1), .val (.int p2), .val (.int p3), .val (.int p4), .val (.int p5), .val (.int (3 : Int32)), .val (.int vi55), .val (.int vi56), .val (.int vi57), .val (.int vi58), .val (.ref b59), .unset] [(.int (1 : Int32))]))
      refine own_go (fun t_ k => XS.goto X62.here hx rfl (pc0 := 52) (pc' := 56) rfl (hb hby at_52) (by decide) (by decide) k) ?_
      show WP p e below _ (T62.setTop (mkF m 56 #[.val (.int p1), .val (.int p2), .val (.int p3), .val (.int p4), .val (.int p5), .val (.int (3 : Int32)), .val (.int vi55), .val (.int vi56), .val (.int vi57), .val (.int vi58), .val (.ref b59), .unset] [(.int (1 : Int32))]))
      exact J66 T62 _ X62 N62 e62 _ (by rw [if_pos hc48_64])
    · refine own_go (fun t_ k => XS.icmpYes X62.here hx rfl (pc0 := 48) (pc' := 55) rfl (hb hby at_48) rfl (feq hc48_64).2 (by decide) (by decide) k) ?_
      show WP p e below _ (T62.setTop (mkF m 55 #[.val (.int p1), .val (.int p2), .val (.int p3), .val (.int p4), .val (.int p5), .val (.int (3 : Int32)), .val (.int vi55), .val (.int vi56), .val (.int vi57), .val (.int vi58), .val (.ref b59), .unset] []))
      refine own_go (fun t_ k => XS.iconst X62.here hx rfl (hb hby at_55) k) ?_
      show WP p e below _ (T62.setTop (mkF m 56 #[.val (.int p1), .val (.int p2), .val (.int p3), .val (.int p4), .val (.int p5), .val (.int (3 : Int32)), .val (.int vi55), .val (.int vi56), .val (.int vi57), .val (.int vi58), .val (.ref b59), .unset] [(.int (0 : Int32))]))
      exact J66 T62 _ X62 N62 e62 _ (by rw [if_neg hc48_64])
  · subst hs2
    show WP p e below _ (s₁.setTop (mkF m 8 #[.val (.int p1), .val (.int p2), .val (.int p3), .val (.int p4), .val (.int p5), .val (.int (4 : Int32)), .unset, .unset, .unset, .unset, .unset, .unset] []))
    refine own_go (fun t_ k => XS.iloadN X0.here hx rfl (hb hby at_8) rfl k) ?_
    show WP p e below _ (s₁.setTop (mkF m 9 #[.val (.int p1), .val (.int p2), .val (.int p3), .val (.int p4), .val (.int p5), .val (.int (4 : Int32)), .unset, .unset, .unset, .unset, .unset, .unset] [(.int p1)]))
    refine own_go (fun t_ k => XS.i2b X0.here hx rfl (hb hby at_9) rfl k) ?_
    show WP p e below _ (s₁.setTop (mkF m 10 #[.val (.int p1), .val (.int p2), .val (.int p3), .val (.int p4), .val (.int p5), .val (.int (4 : Int32)), .unset, .unset, .unset, .unset, .unset, .unset] [(.int (p1.toInt8.toInt32))]))
    refine own_go (fun t_ k => XS.istore X0.here hx rfl (hb hby at_10) rfl (l' := #[.val (.int p1), .val (.int p2), .val (.int p3), .val (.int p4), .val (.int p5), .val (.int (4 : Int32)), .val (.int (p1.toInt8.toInt32)), .unset, .unset, .unset, .unset, .unset]) rfl k) ?_
    show WP p e below _ (s₁.setTop (mkF m 12 #[.val (.int p1), .val (.int p2), .val (.int p3), .val (.int p4), .val (.int p5), .val (.int (4 : Int32)), .val (.int (p1.toInt8.toInt32)), .unset, .unset, .unset, .unset, .unset] []))
    generalize he90 : (p1.toInt8.toInt32) = vi90
    show WP p e below _ (s₁.setTop (mkF m 12 #[.val (.int p1), .val (.int p2), .val (.int p3), .val (.int p4), .val (.int p5), .val (.int (4 : Int32)), .val (.int vi90), .unset, .unset, .unset, .unset, .unset] []))
    refine own_go (fun t_ k => XS.iloadN X0.here hx rfl (hb hby at_12) rfl k) ?_
    show WP p e below _ (s₁.setTop (mkF m 13 #[.val (.int p1), .val (.int p2), .val (.int p3), .val (.int p4), .val (.int p5), .val (.int (4 : Int32)), .val (.int vi90), .unset, .unset, .unset, .unset, .unset] [(.int p2)]))
    refine own_go (fun t_ k => XS.i2b X0.here hx rfl (hb hby at_13) rfl k) ?_
    show WP p e below _ (s₁.setTop (mkF m 14 #[.val (.int p1), .val (.int p2), .val (.int p3), .val (.int p4), .val (.int p5), .val (.int (4 : Int32)), .val (.int vi90), .unset, .unset, .unset, .unset, .unset] [(.int (p2.toInt8.toInt32))]))
    refine own_go (fun t_ k => XS.istore X0.here hx rfl (hb hby at_14) rfl (l' := #[.val (.int p1), .val (.int p2), .val (.int p3), .val (.int p4), .val (.int p5), .val (.int (4 : Int32)), .val (.int vi90), .val (.int (p2.toInt8.toInt32)), .unset, .unset, .unset, .unset]) rfl k) ?_
    show WP p e below _ (s₁.setTop (mkF m 16 #[.val (.int p1), .val (.int p2), .val (.int p3), .val (.int p4), .val (.int p5), .val (.int (4 : Int32)), .val (.int vi90), .val (.int (p2.toInt8.toInt32)), .unset, .unset, .unset, .unset] []))
    generalize he91 : (p2.toInt8.toInt32) = vi91
    show WP p e below _ (s₁.setTop (mkF m 16 #[.val (.int p1), .val (.int p2), .val (.int p3), .val (.int p4), .val (.int p5), .val (.int (4 : Int32)), .val (.int vi90), .val (.int vi91), .unset, .unset, .unset, .unset] []))
    refine own_go (fun t_ k => XS.iloadN X0.here hx rfl (hb hby at_16) rfl k) ?_
    show WP p e below _ (s₁.setTop (mkF m 17 #[.val (.int p1), .val (.int p2), .val (.int p3), .val (.int p4), .val (.int p5), .val (.int (4 : Int32)), .val (.int vi90), .val (.int vi91), .unset, .unset, .unset, .unset] [(.int p3)]))
    refine own_go (fun t_ k => XS.i2b X0.here hx rfl (hb hby at_17) rfl k) ?_
    show WP p e below _ (s₁.setTop (mkF m 18 #[.val (.int p1), .val (.int p2), .val (.int p3), .val (.int p4), .val (.int p5), .val (.int (4 : Int32)), .val (.int vi90), .val (.int vi91), .unset, .unset, .unset, .unset] [(.int (p3.toInt8.toInt32))]))
    refine own_go (fun t_ k => XS.istore X0.here hx rfl (hb hby at_18) rfl (l' := #[.val (.int p1), .val (.int p2), .val (.int p3), .val (.int p4), .val (.int p5), .val (.int (4 : Int32)), .val (.int vi90), .val (.int vi91), .val (.int (p3.toInt8.toInt32)), .unset, .unset, .unset]) rfl k) ?_
    show WP p e below _ (s₁.setTop (mkF m 20 #[.val (.int p1), .val (.int p2), .val (.int p3), .val (.int p4), .val (.int p5), .val (.int (4 : Int32)), .val (.int vi90), .val (.int vi91), .val (.int (p3.toInt8.toInt32)), .unset, .unset, .unset] []))
    generalize he92 : (p3.toInt8.toInt32) = vi92
    show WP p e below _ (s₁.setTop (mkF m 20 #[.val (.int p1), .val (.int p2), .val (.int p3), .val (.int p4), .val (.int p5), .val (.int (4 : Int32)), .val (.int vi90), .val (.int vi91), .val (.int vi92), .unset, .unset, .unset] []))
    refine own_go (fun t_ k => XS.iloadN X0.here hx rfl (hb hby at_20) rfl k) ?_
    show WP p e below _ (s₁.setTop (mkF m 21 #[.val (.int p1), .val (.int p2), .val (.int p3), .val (.int p4), .val (.int p5), .val (.int (4 : Int32)), .val (.int vi90), .val (.int vi91), .val (.int vi92), .unset, .unset, .unset] [(.int p4)]))
    refine own_go (fun t_ k => XS.i2b X0.here hx rfl (hb hby at_21) rfl k) ?_
    show WP p e below _ (s₁.setTop (mkF m 22 #[.val (.int p1), .val (.int p2), .val (.int p3), .val (.int p4), .val (.int p5), .val (.int (4 : Int32)), .val (.int vi90), .val (.int vi91), .val (.int vi92), .unset, .unset, .unset] [(.int (p4.toInt8.toInt32))]))
    refine own_go (fun t_ k => XS.istore X0.here hx rfl (hb hby at_22) rfl (l' := #[.val (.int p1), .val (.int p2), .val (.int p3), .val (.int p4), .val (.int p5), .val (.int (4 : Int32)), .val (.int vi90), .val (.int vi91), .val (.int vi92), .val (.int (p4.toInt8.toInt32)), .unset, .unset]) rfl k) ?_
    show WP p e below _ (s₁.setTop (mkF m 24 #[.val (.int p1), .val (.int p2), .val (.int p3), .val (.int p4), .val (.int p5), .val (.int (4 : Int32)), .val (.int vi90), .val (.int vi91), .val (.int vi92), .val (.int (p4.toInt8.toInt32)), .unset, .unset] []))
    generalize he93 : (p4.toInt8.toInt32) = vi93
    show WP p e below _ (s₁.setTop (mkF m 24 #[.val (.int p1), .val (.int p2), .val (.int p3), .val (.int p4), .val (.int p5), .val (.int (4 : Int32)), .val (.int vi90), .val (.int vi91), .val (.int vi92), .val (.int vi93), .unset, .unset] []))
    obtain ⟨T94, h94, X94, e94, E94, A94, D94, -, st94⟩ := newO X0 hx hZ hown (hw _ (List.mem_of_getElem? (i := 0) rfl)) (hw _ (List.mem_of_getElem? (i := 1) rfl)) (hw _ (List.mem_of_getElem? (i := 2) rfl)) e0 (g := (mkF m 24 #[.val (.int p1), .val (.int p2), .val (.int p3), .val (.int p4), .val (.int p5), .val (.int (4 : Int32)), .val (.int vi90), .val (.int vi91), .val (.int vi92), .val (.int vi93), .unset, .unset] [])) rfl (hb hby at_24) (by decide) (by decide)
    obtain ⟨b94, g94⟩ : ∃ z, z = Array.size h0 := ⟨_, rfl⟩
    rw [← g94] at A94 D94 st94
    refine own_go st94 ?_
    have g_b94 : n0 ≤ b94 := Nat.le_trans (Nat.le_trans Z0 (Keep.refl h0 []).1) (Nat.le_of_eq g94.symm)
    have sz_b94 : h0.size ≤ b94 := Nat.le_trans (Keep.refl h0 []).1 (Nat.le_of_eq g94.symm)
    have K94 : Keep h0 h94 [] := (Keep.refl h0 []).ext E94
    have F94_blocks : Fld Z h94 b94 "com/example/vestry/vestry/ByteBlocks" "blocks" "[[B" .null := D94 (Or.inl (hw _ (List.mem_of_getElem? (i := 12) rfl))) (ty := (.array (.array .byte))) (by decide)
    have F94_size : Fld Z h94 b94 "com/example/vestry/vestry/ByteBlocks" "size" "J" (.long (0 : Int64)) := D94 (Or.inl (hw _ (List.mem_of_getElem? (i := 19) rfl))) (ty := .long) (by decide)
    show WP p e below _ (T94.setTop (mkF m 27 #[.val (.int p1), .val (.int p2), .val (.int p3), .val (.int p4), .val (.int p5), .val (.int (4 : Int32)), .val (.int vi90), .val (.int vi91), .val (.int vi92), .val (.int vi93), .unset, .unset] [(.ref b94)]))
    refine own_go (fun t_ k => XS.dup X94.here hx rfl (hb hby at_27) rfl rfl k) ?_
    show WP p e below _ (T94.setTop (mkF m 28 #[.val (.int p1), .val (.int p2), .val (.int p3), .val (.int p4), .val (.int p5), .val (.int (4 : Int32)), .val (.int vi90), .val (.int vi91), .val (.int vi92), .val (.int vi93), .unset, .unset] [(.ref b94), (.ref b94)]))
    obtain ⟨_, _, ⟨T95, L95, k95, n95⟩, -, X95, ⟨Lc95, hQ95, l95, y95, z95⟩, st95⟩ := X94.specialBack hx (y := (⟨"com/example/vestry/vestry/ByteBlocks", "<init>", "()V"⟩ : MethodName)) rfl hown (mvT hZ (hw _ (List.mem_of_getElem? (i := 3) rfl))) (mvT hZ (hw _ (List.mem_of_getElem? (i := 4) rfl))) (mvT hZ (hw _ (List.mem_of_getElem? (i := 5) rfl))) (by decide) (backOf (W := 1) (rm_i l Z a0 hw [] b94 h94 n0 (Nat.le_trans Z0 K94.1) A94 g_b94 F94_blocks F94_size) hZ (hw _ (List.mem_of_getElem? (i := 5) rfl)) (hw _ (List.mem_of_getElem? (i := 2) rfl)) (by decide) (by decide)) (g := (mkF m 28 #[.val (.int p1), .val (.int p2), .val (.int p3), .val (.int p4), .val (.int p5), .val (.int (4 : Int32)), .val (.int vi90), .val (.int vi91), .val (.int vi92), .val (.int vi93), .unset, .unset] [(.ref b94), (.ref b94)])) rfl (by rw [hml]; rfl) (Steps.refl _) (a := b94) (argsL := []) (rest := [(.ref b94)]) (lenOf pd_0 rfl) rfl (by show 2 * 0 + _ ≤ _; exact Nat.le_of_eq rfl) (hb hby at_28) (fun _ _ => ⟨rfl, e94, (by decide : 1 + 1 ≤ _), (by decide : 2 + 1 ≤ _)⟩)
    dsimp only [Pt.U, Pt.locs, Pt.cells, Pt.slots] at X95 l95 y95 z95 st95 hQ95
    subst l95 y95 z95
    obtain ⟨rfl, N95q, K95c, t95, kk95, gt95, szt95', P95, O95⟩ := hQ95
    have N95 := Fr.app N0 N95q
    replace X95 : Stand p l e room_1 s m _ below meth c T95 _ 2 3 := X95
    refine own_go (fun t_ k => st95.trans k) ?_
    have K95 : Keep h0 T95.heap [] := K94.trans K95c (allS (Or.inr sz_b94) all0)
    have szt95 : h0.size ≤ t95 := Nat.le_trans K94.1 szt95'
    show WP p e below _ (T95.setTop (mkF m 31 #[.val (.int p1), .val (.int p2), .val (.int p3), .val (.int p4), .val (.int p5), .val (.int (4 : Int32)), .val (.int vi90), .val (.int vi91), .val (.int vi92), .val (.int vi93), .unset, .unset] [(.ref b94)]))
    refine own_go (fun t_ k => XS.astore X95.here hx rfl (hb hby at_31) rfl rfl (l' := #[.val (.int p1), .val (.int p2), .val (.int p3), .val (.int p4), .val (.int p5), .val (.int (4 : Int32)), .val (.int vi90), .val (.int vi91), .val (.int vi92), .val (.int vi93), .val (.ref b94), .unset]) rfl k) ?_
    show WP p e below _ (T95.setTop (mkF m 33 #[.val (.int p1), .val (.int p2), .val (.int p3), .val (.int p4), .val (.int p5), .val (.int (4 : Int32)), .val (.int vi90), .val (.int vi91), .val (.int vi92), .val (.int vi93), .val (.ref b94), .unset] []))
    refine own_go (fun t_ k => XS.aload X95.here hx rfl (hb hby at_33) rfl rfl k) ?_
    show WP p e below _ (T95.setTop (mkF m 35 #[.val (.int p1), .val (.int p2), .val (.int p3), .val (.int p4), .val (.int p5), .val (.int (4 : Int32)), .val (.int vi90), .val (.int vi91), .val (.int vi92), .val (.int vi93), .val (.ref b94), .unset] [(.ref b94)]))
    refine own_go (fun t_ k => XS.iload X95.here hx rfl (hb hby at_35) rfl k) ?_
    show WP p e below _ (T95.setTop (mkF m 37 #[.val (.int p1), .val (.int p2), .val (.int p3), .val (.int p4), .val (.int p5), .val (.int (4 : Int32)), .val (.int vi90), .val (.int vi91), .val (.int vi92), .val (.int vi93), .val (.ref b94), .unset] [(.int vi90), (.ref b94)]))
    obtain ⟨cq96, kq96, q96a, q96b, q96c⟩ := isOf (T := T95) hZ rfl P95.1
    obtain ⟨_, _, ⟨T96, L96, k96, n96⟩, -, X96, ⟨Lc96, hQ96, l96, y96, z96⟩, st96⟩ := X95.virtualBack hx (y := (⟨"com/example/vestry/vestry/ByteBlocks", "append", "(B)V"⟩ : MethodName)) (z := (⟨"com/example/vestry/vestry/ByteBlocks", "append", "(B)V"⟩ : MethodName)) hown (mvT hZ (hw _ (List.mem_of_getElem? (i := 13) rfl))) (mvT hZ (hw _ (List.mem_of_getElem? (i := 14) rfl))) (notFace_of_selects (args := #[]) (mvT hZ (hw _ (List.mem_of_getElem? (i := 16) rfl)))) (mvT hZ (hw _ (List.mem_of_getElem? (i := 16) rfl))) (mvT hZ (hw _ (List.mem_of_getElem? (i := 15) rfl))) (by decide) (backOf (W := 0) (rm_a0 l Z a0 hw [] b94 vi90 t95 kk95 T95.heap n0 (Nat.le_trans Z0 K95.1) P95 O95 g_b94 gt95) hZ (hw _ (List.mem_of_getElem? (i := 17) rfl)) (hw _ (List.mem_of_getElem? (i := 2) rfl)) (by decide) (by decide)) q96a q96c (g := (mkF m 37 #[.val (.int p1), .val (.int p2), .val (.int p3), .val (.int p4), .val (.int p5), .val (.int (4 : Int32)), .val (.int vi90), .val (.int vi91), .val (.int vi92), .val (.int vi93), .val (.ref b94), .unset] [(.int vi90), (.ref b94)])) rfl (by rw [hml]; rfl) (Steps.refl _) (argsL := [(.int vi90)]) (rest := []) (lenOf pd_1 rfl) rfl (by show 2 * 0 + _ ≤ _; exact Nat.le_of_eq rfl) (hb hby at_37) (fun _ _ => ⟨rfl, rfl, (by decide : 2 + 1 ≤ _), (by decide : 3 + 65536 ≤ _)⟩)
    dsimp only [Pt.U, Pt.locs, Pt.cells, Pt.slots] at X96 l96 y96 z96 st96 hQ96
    subst l96 y96 z96
    obtain ⟨rfl, N96q, K96c, b96, kb96, gb96, szb96', P96⟩ := hQ96
    have N96 := Fr.app N95 N96q
    replace X96 : Stand p l e room_1 s m _ below meth c T96 _ 3 65539 := X96
    refine own_go (fun t_ k => st96.trans k) ?_
    have K96 : Keep h0 T96.heap [] := K95.trans K96c (allS (Or.inr sz_b94) (allS (Or.inr szt95) all0))
    have szb96 : h0.size ≤ b96 := Nat.le_trans K95.1 szb96'
    replace P96 : BB Z T96.heap b94 t95 kk95 b96 kb96 (1 : Int64) [(vi90.toInt8.toInt32)] := P96
    show WP p e below _ (T96.setTop (mkF m 40 #[.val (.int p1), .val (.int p2), .val (.int p3), .val (.int p4), .val (.int p5), .val (.int (4 : Int32)), .val (.int vi90), .val (.int vi91), .val (.int vi92), .val (.int vi93), .val (.ref b94), .unset] []))
    refine own_go (fun t_ k => XS.aload X96.here hx rfl (hb hby at_40) rfl rfl k) ?_
    show WP p e below _ (T96.setTop (mkF m 42 #[.val (.int p1), .val (.int p2), .val (.int p3), .val (.int p4), .val (.int p5), .val (.int (4 : Int32)), .val (.int vi90), .val (.int vi91), .val (.int vi92), .val (.int vi93), .val (.ref b94), .unset] [(.ref b94)]))
    refine own_go (fun t_ k => XS.lconst X96.here hx rfl (hb hby at_42) k) ?_
    show WP p e below _ (T96.setTop (mkF m 43 #[.val (.int p1), .val (.int p2), .val (.int p3), .val (.int p4), .val (.int p5), .val (.int (4 : Int32)), .val (.int vi90), .val (.int vi91), .val (.int vi92), .val (.int vi93), .val (.ref b94), .unset] [(.long (0 : Int64)), (.ref b94)]))
    obtain ⟨cq97, kq97, q97a, q97b, q97c⟩ := isOf (T := T96) hZ rfl P96.1
    obtain ⟨_, _, ⟨T97, L97, k97, n97⟩, -, X97, ⟨Lc97, hQ97, l97, y97, z97⟩, st97⟩ := X96.virtualBack hx (y := (⟨"com/example/vestry/vestry/ByteBlocks", "at", "(J)B"⟩ : MethodName)) (z := (⟨"com/example/vestry/vestry/ByteBlocks", "at", "(J)B"⟩ : MethodName)) hown (mvT hZ (hw _ (List.mem_of_getElem? (i := 24) rfl))) (mvT hZ (hw _ (List.mem_of_getElem? (i := 25) rfl))) (notFace_of_selects (args := #[]) (mvT hZ (hw _ (List.mem_of_getElem? (i := 27) rfl)))) (mvT hZ (hw _ (List.mem_of_getElem? (i := 27) rfl))) (mvT hZ (hw _ (List.mem_of_getElem? (i := 26) rfl))) (by decide) (backOf (W := 0) (rm_at0 l Z a0 hw [] b94 (0 : Int64) t95 kk95 b96 kb96 (1 : Int64) [(vi90.toInt8.toInt32)] T96.heap n0 P96 rfl) hZ (hw _ (List.mem_of_getElem? (i := 28) rfl)) (hw _ (List.mem_of_getElem? (i := 2) rfl)) (by decide) (by decide)) q97a q97c (g := (mkF m 43 #[.val (.int p1), .val (.int p2), .val (.int p3), .val (.int p4), .val (.int p5), .val (.int (4 : Int32)), .val (.int vi90), .val (.int vi91), .val (.int vi92), .val (.int vi93), .val (.ref b94), .unset] [(.long (0 : Int64)), (.ref b94)])) rfl (by rw [hml]; rfl) (Steps.refl _) (argsL := [(.long (0 : Int64))]) (rest := []) (lenOf pd_2 rfl) rfl (by show 2 * 0 + _ ≤ _; exact Nat.le_of_eq rfl) (hb hby at_43) (fun _ _ => ⟨rfl, rfl, (by decide : 3 + 0 ≤ _), (by decide : 65539 + 0 ≤ _)⟩)
    dsimp only [Pt.U, Pt.locs, Pt.cells, Pt.slots] at X97 l97 y97 z97 st97 hQ97
    subst l97 y97 z97
    obtain ⟨rfl, N97q, e97⟩ := hQ97
    have N97 := Fr.app N96 N97q
    replace X97 : Stand p l e room_1 s m _ below meth c T97 _ 3 65539 := X97
    refine own_go (fun t_ k => st97.trans k) ?_
    show WP p e below _ (T97.setTop (mkF m 46 #[.val (.int p1), .val (.int p2), .val (.int p3), .val (.int p4), .val (.int p5), .val (.int (4 : Int32)), .val (.int vi90), .val (.int vi91), .val (.int vi92), .val (.int vi93), .val (.ref b94), .unset] [(.int ((vi90.toInt8.toInt32).toInt8.toInt32))]))
    generalize he98 : ((vi90.toInt8.toInt32).toInt8.toInt32) = vi98
    show WP p e below _ (T97.setTop (mkF m 46 #[.val (.int p1), .val (.int p2), .val (.int p3), .val (.int p4), .val (.int p5), .val (.int (4 : Int32)), .val (.int vi90), .val (.int vi91), .val (.int vi92), .val (.int vi93), .val (.ref b94), .unset] [(.int vi98)]))
    refine own_go (fun t_ k => XS.iload X97.here hx rfl (hb hby at_46) rfl k) ?_
    show WP p e below _ (T97.setTop (mkF m 48 #[.val (.int p1), .val (.int p2), .val (.int p3), .val (.int p4), .val (.int p5), .val (.int (4 : Int32)), .val (.int vi90), .val (.int vi91), .val (.int vi92), .val (.int vi93), .val (.ref b94), .unset] [(.int vi90), (.int vi98)]))
    have J101 : ∀ (T101 : State) (ls101 : List Loc) (X101 : Stand p l e room_1 s m #[(.int p1), (.int p2), (.int p3), (.int p4), (.int p5)] below meth c T101 ls101 3 65539) (N101 : Fr n0 ls101) (e101 : T101.heap = T96.heap) (z100_S0 : Int32) (hz100_S0 : z100_S0 = (if vi98 = vi90 then (1 : Int32) else (0 : Int32))), WP p e below (GG (Q0 n0) s room_1.cells room_1.slots) (T101.setTop (mkF m 56 #[.val (.int p1), .val (.int p2), .val (.int p3), .val (.int p4), .val (.int p5), .val (.int (4 : Int32)), .val (.int vi90), .val (.int vi91), .val (.int vi92), .val (.int vi93), .val (.ref b94), .unset] [(.int z100_S0)])) := by
      intro T101 ls101 X101 N101 e101 z100_S0 hz100_S0
      show WP p e below _ (T101.setTop (mkF m 56 #[.val (.int p1), .val (.int p2), .val (.int p3), .val (.int p4), .val (.int p5), .val (.int (4 : Int32)), .val (.int vi90), .val (.int vi91), .val (.int vi92), .val (.int vi93), .val (.ref b94), .unset] [(.int z100_S0)]))
      refine own_go (fun t_ k => XS.istore X101.here hx rfl (hb hby at_56) rfl (l' := #[.val (.int p1), .val (.int p2), .val (.int p3), .val (.int p4), .val (.int p5), .val (.int (4 : Int32)), .val (.int vi90), .val (.int vi91), .val (.int vi92), .val (.int vi93), .val (.ref b94), .val (.int z100_S0)]) rfl k) ?_
      show WP p e below _ (T101.setTop (mkF m 58 #[.val (.int p1), .val (.int p2), .val (.int p3), .val (.int p4), .val (.int p5), .val (.int (4 : Int32)), .val (.int vi90), .val (.int vi91), .val (.int vi92), .val (.int vi93), .val (.ref b94), .val (.int z100_S0)] []))
      refine own_go (fun t_ k => XS.iload X101.here hx rfl (hb hby at_58) rfl k) ?_
      show WP p e below _ (T101.setTop (mkF m 60 #[.val (.int p1), .val (.int p2), .val (.int p3), .val (.int p4), .val (.int p5), .val (.int (4 : Int32)), .val (.int vi90), .val (.int vi91), .val (.int vi92), .val (.int vi93), .val (.ref b94), .val (.int z100_S0)] [(.int (4 : Int32))]))
      refine own_go (fun t_ k => XS.iconst X101.here hx rfl (hb hby at_60) k) ?_
      show WP p e below _ (T101.setTop (mkF m 61 #[.val (.int p1), .val (.int p2), .val (.int p3), .val (.int p4), .val (.int p5), .val (.int (4 : Int32)), .val (.int vi90), .val (.int vi91), .val (.int vi92), .val (.int vi93), .val (.ref b94), .val (.int z100_S0)] [(.int (1 : Int32)), (.int (4 : Int32))]))
      have hc61_102 : ((1 : Int32) < (4 : Int32)) := by decide
      refine own_go (fun t_ k => XS.icmpNo X101.here hx rfl (hb hby at_61) rfl (tlt hc61_102).2.2.2 k) ?_
      show WP p e below _ (T101.setTop (mkF m 64 #[.val (.int p1), .val (.int p2), .val (.int p3), .val (.int p4), .val (.int p5), .val (.int (4 : Int32)), .val (.int vi90), .val (.int vi91), .val (.int vi92), .val (.int vi93), .val (.ref b94), .val (.int z100_S0)] []))
      refine own_go (fun t_ k => XS.aload X101.here hx rfl (hb hby at_64) rfl rfl k) ?_
      show WP p e below _ (T101.setTop (mkF m 66 #[.val (.int p1), .val (.int p2), .val (.int p3), .val (.int p4), .val (.int p5), .val (.int (4 : Int32)), .val (.int vi90), .val (.int vi91), .val (.int vi92), .val (.int vi93), .val (.ref b94), .val (.int z100_S0)] [(.ref b94)]))
      refine own_go (fun t_ k => XS.iload X101.here hx rfl (hb hby at_66) rfl k) ?_
      show WP p e below _ (T101.setTop (mkF m 68 #[.val (.int p1), .val (.int p2), .val (.int p3), .val (.int p4), .val (.int p5), .val (.int (4 : Int32)), .val (.int vi90), .val (.int vi91), .val (.int vi92), .val (.int vi93), .val (.ref b94), .val (.int z100_S0)] [(.int vi91), (.ref b94)]))
      obtain ⟨cq103, kq103, q103a, q103b, q103c⟩ := isOf (T := T101) hZ e101 P96.1
      obtain ⟨_, _, ⟨T103, L103, k103, n103⟩, -, X103, ⟨Lc103, hQ103, l103, y103, z103⟩, st103⟩ := X101.virtualBack hx (y := (⟨"com/example/vestry/vestry/ByteBlocks", "append", "(B)V"⟩ : MethodName)) (z := (⟨"com/example/vestry/vestry/ByteBlocks", "append", "(B)V"⟩ : MethodName)) hown (mvT hZ (hw _ (List.mem_of_getElem? (i := 13) rfl))) (mvT hZ (hw _ (List.mem_of_getElem? (i := 14) rfl))) (notFace_of_selects (args := #[]) (mvT hZ (hw _ (List.mem_of_getElem? (i := 16) rfl)))) (mvT hZ (hw _ (List.mem_of_getElem? (i := 16) rfl))) (mvT hZ (hw _ (List.mem_of_getElem? (i := 15) rfl))) (by decide) (backOf (W := 0) (rm_a1 l Z a0 hw [] b94 vi91 t95 kk95 b96 kb96 [(vi90.toInt8.toInt32)] T96.heap n0 P96 rfl g_b94 gb96) hZ (hw _ (List.mem_of_getElem? (i := 17) rfl)) (hw _ (List.mem_of_getElem? (i := 2) rfl)) (by decide) (by decide)) q103a q103c (g := (mkF m 68 #[.val (.int p1), .val (.int p2), .val (.int p3), .val (.int p4), .val (.int p5), .val (.int (4 : Int32)), .val (.int vi90), .val (.int vi91), .val (.int vi92), .val (.int vi93), .val (.ref b94), .val (.int z100_S0)] [(.int vi91), (.ref b94)])) rfl (by rw [hml]; rfl) (Steps.refl _) (argsL := [(.int vi91)]) (rest := []) (lenOf pd_1 rfl) rfl (by show 2 * 0 + _ ≤ _; exact Nat.le_of_eq rfl) (hb hby at_68) (fun _ _ => ⟨rfl, e101, (by decide : 3 + 0 ≤ _), (by decide : 65539 + 0 ≤ _)⟩)
      dsimp only [Pt.U, Pt.locs, Pt.cells, Pt.slots] at X103 l103 y103 z103 st103 hQ103
      subst l103 y103 z103
      obtain ⟨rfl, N103q, K103c, P103⟩ := hQ103
      have N103 := Fr.app N101 N103q
      replace X103 : Stand p l e room_1 s m _ below meth c T103 _ 3 65539 := X103
      refine own_go (fun t_ k => st103.trans k) ?_
      have K103 : Keep h0 T103.heap [] := K96.trans K103c (allS (Or.inr sz_b94) (allS (Or.inr szb96) all0))
      replace P103 : BB Z T103.heap b94 t95 kk95 b96 kb96 (2 : Int64) [(vi90.toInt8.toInt32), (vi91.toInt8.toInt32)] := P103
      show WP p e below _ (T103.setTop (mkF m 71 #[.val (.int p1), .val (.int p2), .val (.int p3), .val (.int p4), .val (.int p5), .val (.int (4 : Int32)), .val (.int vi90), .val (.int vi91), .val (.int vi92), .val (.int vi93), .val (.ref b94), .val (.int z100_S0)] []))
      refine own_go (fun t_ k => XS.iload X103.here hx rfl (hb hby at_71) rfl k) ?_
      show WP p e below _ (T103.setTop (mkF m 73 #[.val (.int p1), .val (.int p2), .val (.int p3), .val (.int p4), .val (.int p5), .val (.int (4 : Int32)), .val (.int vi90), .val (.int vi91), .val (.int vi92), .val (.int vi93), .val (.ref b94), .val (.int z100_S0)] [(.int (4 : Int32))]))
      refine own_go (fun t_ k => XS.iconst X103.here hx rfl (hb hby at_73) k) ?_
      show WP p e below _ (T103.setTop (mkF m 74 #[.val (.int p1), .val (.int p2), .val (.int p3), .val (.int p4), .val (.int p5), .val (.int (4 : Int32)), .val (.int vi90), .val (.int vi91), .val (.int vi92), .val (.int vi93), .val (.ref b94), .val (.int z100_S0)] [(.int (2 : Int32)), (.int (4 : Int32))]))
      have hc74_104 : ((2 : Int32) < (4 : Int32)) := by decide
      refine own_go (fun t_ k => XS.icmpNo X103.here hx rfl (hb hby at_74) rfl (tlt hc74_104).2.2.2 k) ?_
      show WP p e below _ (T103.setTop (mkF m 77 #[.val (.int p1), .val (.int p2), .val (.int p3), .val (.int p4), .val (.int p5), .val (.int (4 : Int32)), .val (.int vi90), .val (.int vi91), .val (.int vi92), .val (.int vi93), .val (.ref b94), .val (.int z100_S0)] []))
      refine own_go (fun t_ k => XS.aload X103.here hx rfl (hb hby at_77) rfl rfl k) ?_
      show WP p e below _ (T103.setTop (mkF m 79 #[.val (.int p1), .val (.int p2), .val (.int p3), .val (.int p4), .val (.int p5), .val (.int (4 : Int32)), .val (.int vi90), .val (.int vi91), .val (.int vi92), .val (.int vi93), .val (.ref b94), .val (.int z100_S0)] [(.ref b94)]))
      refine own_go (fun t_ k => XS.iload X103.here hx rfl (hb hby at_79) rfl k) ?_
      show WP p e below _ (T103.setTop (mkF m 81 #[.val (.int p1), .val (.int p2), .val (.int p3), .val (.int p4), .val (.int p5), .val (.int (4 : Int32)), .val (.int vi90), .val (.int vi91), .val (.int vi92), .val (.int vi93), .val (.ref b94), .val (.int z100_S0)] [(.int vi92), (.ref b94)]))
      obtain ⟨cq105, kq105, q105a, q105b, q105c⟩ := isOf (T := T103) hZ rfl P103.1
      obtain ⟨_, _, ⟨T105, L105, k105, n105⟩, -, X105, ⟨Lc105, hQ105, l105, y105, z105⟩, st105⟩ := X103.virtualBack hx (y := (⟨"com/example/vestry/vestry/ByteBlocks", "append", "(B)V"⟩ : MethodName)) (z := (⟨"com/example/vestry/vestry/ByteBlocks", "append", "(B)V"⟩ : MethodName)) hown (mvT hZ (hw _ (List.mem_of_getElem? (i := 13) rfl))) (mvT hZ (hw _ (List.mem_of_getElem? (i := 14) rfl))) (notFace_of_selects (args := #[]) (mvT hZ (hw _ (List.mem_of_getElem? (i := 16) rfl)))) (mvT hZ (hw _ (List.mem_of_getElem? (i := 16) rfl))) (mvT hZ (hw _ (List.mem_of_getElem? (i := 15) rfl))) (by decide) (backOf (W := 0) (rm_a2 l Z a0 hw [] b94 vi92 t95 kk95 b96 kb96 [(vi90.toInt8.toInt32), (vi91.toInt8.toInt32)] T103.heap n0 P103 rfl g_b94 gb96) hZ (hw _ (List.mem_of_getElem? (i := 17) rfl)) (hw _ (List.mem_of_getElem? (i := 2) rfl)) (by decide) (by decide)) q105a q105c (g := (mkF m 81 #[.val (.int p1), .val (.int p2), .val (.int p3), .val (.int p4), .val (.int p5), .val (.int (4 : Int32)), .val (.int vi90), .val (.int vi91), .val (.int vi92), .val (.int vi93), .val (.ref b94), .val (.int z100_S0)] [(.int vi92), (.ref b94)])) rfl (by rw [hml]; rfl) (Steps.refl _) (argsL := [(.int vi92)]) (rest := []) (lenOf pd_1 rfl) rfl (by show 2 * 0 + _ ≤ _; exact Nat.le_of_eq rfl) (hb hby at_81) (fun _ _ => ⟨rfl, rfl, (by decide : 3 + 0 ≤ _), (by decide : 65539 + 0 ≤ _)⟩)
      dsimp only [Pt.U, Pt.locs, Pt.cells, Pt.slots] at X105 l105 y105 z105 st105 hQ105
      subst l105 y105 z105
      obtain ⟨rfl, N105q, K105c, P105⟩ := hQ105
      have N105 := Fr.app N103 N105q
      replace X105 : Stand p l e room_1 s m _ below meth c T105 _ 3 65539 := X105
      refine own_go (fun t_ k => st105.trans k) ?_
      have K105 : Keep h0 T105.heap [] := K103.trans K105c (allS (Or.inr sz_b94) (allS (Or.inr szb96) all0))
      replace P105 : BB Z T105.heap b94 t95 kk95 b96 kb96 (3 : Int64) [(vi90.toInt8.toInt32), (vi91.toInt8.toInt32), (vi92.toInt8.toInt32)] := P105
      show WP p e below _ (T105.setTop (mkF m 84 #[.val (.int p1), .val (.int p2), .val (.int p3), .val (.int p4), .val (.int p5), .val (.int (4 : Int32)), .val (.int vi90), .val (.int vi91), .val (.int vi92), .val (.int vi93), .val (.ref b94), .val (.int z100_S0)] []))
      refine own_go (fun t_ k => XS.iload X105.here hx rfl (hb hby at_84) rfl k) ?_
      show WP p e below _ (T105.setTop (mkF m 86 #[.val (.int p1), .val (.int p2), .val (.int p3), .val (.int p4), .val (.int p5), .val (.int (4 : Int32)), .val (.int vi90), .val (.int vi91), .val (.int vi92), .val (.int vi93), .val (.ref b94), .val (.int z100_S0)] [(.int (4 : Int32))]))
      refine own_go (fun t_ k => XS.iconst X105.here hx rfl (hb hby at_86) k) ?_
      show WP p e below _ (T105.setTop (mkF m 87 #[.val (.int p1), .val (.int p2), .val (.int p3), .val (.int p4), .val (.int p5), .val (.int (4 : Int32)), .val (.int vi90), .val (.int vi91), .val (.int vi92), .val (.int vi93), .val (.ref b94), .val (.int z100_S0)] [(.int (3 : Int32)), (.int (4 : Int32))]))
      have hc87_106 : ((3 : Int32) < (4 : Int32)) := by decide
      refine own_go (fun t_ k => XS.icmpNo X105.here hx rfl (hb hby at_87) rfl (tlt hc87_106).2.2.2 k) ?_
      show WP p e below _ (T105.setTop (mkF m 90 #[.val (.int p1), .val (.int p2), .val (.int p3), .val (.int p4), .val (.int p5), .val (.int (4 : Int32)), .val (.int vi90), .val (.int vi91), .val (.int vi92), .val (.int vi93), .val (.ref b94), .val (.int z100_S0)] []))
      refine own_go (fun t_ k => XS.aload X105.here hx rfl (hb hby at_90) rfl rfl k) ?_
      show WP p e below _ (T105.setTop (mkF m 92 #[.val (.int p1), .val (.int p2), .val (.int p3), .val (.int p4), .val (.int p5), .val (.int (4 : Int32)), .val (.int vi90), .val (.int vi91), .val (.int vi92), .val (.int vi93), .val (.ref b94), .val (.int z100_S0)] [(.ref b94)]))
      refine own_go (fun t_ k => XS.iload X105.here hx rfl (hb hby at_92) rfl k) ?_
      show WP p e below _ (T105.setTop (mkF m 94 #[.val (.int p1), .val (.int p2), .val (.int p3), .val (.int p4), .val (.int p5), .val (.int (4 : Int32)), .val (.int vi90), .val (.int vi91), .val (.int vi92), .val (.int vi93), .val (.ref b94), .val (.int z100_S0)] [(.int vi93), (.ref b94)]))
      obtain ⟨cq107, kq107, q107a, q107b, q107c⟩ := isOf (T := T105) hZ rfl P105.1
      obtain ⟨_, _, ⟨T107, L107, k107, n107⟩, -, X107, ⟨Lc107, hQ107, l107, y107, z107⟩, st107⟩ := X105.virtualBack hx (y := (⟨"com/example/vestry/vestry/ByteBlocks", "append", "(B)V"⟩ : MethodName)) (z := (⟨"com/example/vestry/vestry/ByteBlocks", "append", "(B)V"⟩ : MethodName)) hown (mvT hZ (hw _ (List.mem_of_getElem? (i := 13) rfl))) (mvT hZ (hw _ (List.mem_of_getElem? (i := 14) rfl))) (notFace_of_selects (args := #[]) (mvT hZ (hw _ (List.mem_of_getElem? (i := 16) rfl)))) (mvT hZ (hw _ (List.mem_of_getElem? (i := 16) rfl))) (mvT hZ (hw _ (List.mem_of_getElem? (i := 15) rfl))) (by decide) (backOf (W := 0) (rm_a3 l Z a0 hw [] b94 vi93 t95 kk95 b96 kb96 [(vi90.toInt8.toInt32), (vi91.toInt8.toInt32), (vi92.toInt8.toInt32)] T105.heap n0 P105 rfl g_b94 gb96) hZ (hw _ (List.mem_of_getElem? (i := 17) rfl)) (hw _ (List.mem_of_getElem? (i := 2) rfl)) (by decide) (by decide)) q107a q107c (g := (mkF m 94 #[.val (.int p1), .val (.int p2), .val (.int p3), .val (.int p4), .val (.int p5), .val (.int (4 : Int32)), .val (.int vi90), .val (.int vi91), .val (.int vi92), .val (.int vi93), .val (.ref b94), .val (.int z100_S0)] [(.int vi93), (.ref b94)])) rfl (by rw [hml]; rfl) (Steps.refl _) (argsL := [(.int vi93)]) (rest := []) (lenOf pd_1 rfl) rfl (by show 2 * 0 + _ ≤ _; exact Nat.le_of_eq rfl) (hb hby at_94) (fun _ _ => ⟨rfl, rfl, (by decide : 3 + 0 ≤ _), (by decide : 65539 + 0 ≤ _)⟩)
      dsimp only [Pt.U, Pt.locs, Pt.cells, Pt.slots] at X107 l107 y107 z107 st107 hQ107
      subst l107 y107 z107
      obtain ⟨rfl, N107q, K107c, P107⟩ := hQ107
      have N107 := Fr.app N105 N107q
      replace X107 : Stand p l e room_1 s m _ below meth c T107 _ 3 65539 := X107
      refine own_go (fun t_ k => st107.trans k) ?_
      have K107 : Keep h0 T107.heap [] := K105.trans K107c (allS (Or.inr sz_b94) (allS (Or.inr szb96) all0))
      replace P107 : BB Z T107.heap b94 t95 kk95 b96 kb96 (4 : Int64) [(vi90.toInt8.toInt32), (vi91.toInt8.toInt32), (vi92.toInt8.toInt32), (vi93.toInt8.toInt32)] := P107
      show WP p e below _ (T107.setTop (mkF m 97 #[.val (.int p1), .val (.int p2), .val (.int p3), .val (.int p4), .val (.int p5), .val (.int (4 : Int32)), .val (.int vi90), .val (.int vi91), .val (.int vi92), .val (.int vi93), .val (.ref b94), .val (.int z100_S0)] []))
      refine own_go (fun t_ k => XS.iload X107.here hx rfl (hb hby at_97) rfl k) ?_
      show WP p e below _ (T107.setTop (mkF m 99 #[.val (.int p1), .val (.int p2), .val (.int p3), .val (.int p4), .val (.int p5), .val (.int (4 : Int32)), .val (.int vi90), .val (.int vi91), .val (.int vi92), .val (.int vi93), .val (.ref b94), .val (.int z100_S0)] [(.int z100_S0)]))
      have J110 : ∀ (T110 : State) (ls110 : List Loc) (X110 : Stand p l e room_1 s m #[(.int p1), (.int p2), (.int p3), (.int p4), (.int p5)] below meth c T110 ls110 3 65539) (N110 : Fr n0 ls110) (e110 : T110.heap = T107.heap) (z109_S0 : Int32) (hz109_S0 : z109_S0 = (if z100_S0 = (0 : Int32) then (0 : Int32) else (if ((vi90.toInt8.toInt32).toInt8.toInt32) = vi90 then (1 : Int32) else (0 : Int32)))), WP p e below (GG (Q0 n0) s room_1.cells room_1.slots) (T110.setTop (mkF m 118 #[.val (.int p1), .val (.int p2), .val (.int p3), .val (.int p4), .val (.int p5), .val (.int (4 : Int32)), .val (.int vi90), .val (.int vi91), .val (.int vi92), .val (.int vi93), .val (.ref b94), .val (.int z100_S0)] [(.int z109_S0)])) := by
        intro T110 ls110 X110 N110 e110 z109_S0 hz109_S0
        show WP p e below _ (T110.setTop (mkF m 118 #[.val (.int p1), .val (.int p2), .val (.int p3), .val (.int p4), .val (.int p5), .val (.int (4 : Int32)), .val (.int vi90), .val (.int vi91), .val (.int vi92), .val (.int vi93), .val (.ref b94), .val (.int z100_S0)] [(.int z109_S0)]))
        refine own_go (fun t_ k => XS.istore X110.here hx rfl (hb hby at_118) rfl (l' := #[.val (.int p1), .val (.int p2), .val (.int p3), .val (.int p4), .val (.int p5), .val (.int (4 : Int32)), .val (.int vi90), .val (.int vi91), .val (.int vi92), .val (.int vi93), .val (.ref b94), .val (.int z109_S0)]) rfl k) ?_
        show WP p e below _ (T110.setTop (mkF m 120 #[.val (.int p1), .val (.int p2), .val (.int p3), .val (.int p4), .val (.int p5), .val (.int (4 : Int32)), .val (.int vi90), .val (.int vi91), .val (.int vi92), .val (.int vi93), .val (.ref b94), .val (.int z109_S0)] []))
        refine own_go (fun t_ k => XS.iload X110.here hx rfl (hb hby at_120) rfl k) ?_
        show WP p e below _ (T110.setTop (mkF m 122 #[.val (.int p1), .val (.int p2), .val (.int p3), .val (.int p4), .val (.int p5), .val (.int (4 : Int32)), .val (.int vi90), .val (.int vi91), .val (.int vi92), .val (.int vi93), .val (.ref b94), .val (.int z109_S0)] [(.int (4 : Int32))]))
        refine own_go (fun t_ k => XS.iconst X110.here hx rfl (hb hby at_122) k) ?_
        show WP p e below _ (T110.setTop (mkF m 123 #[.val (.int p1), .val (.int p2), .val (.int p3), .val (.int p4), .val (.int p5), .val (.int (4 : Int32)), .val (.int vi90), .val (.int vi91), .val (.int vi92), .val (.int vi93), .val (.ref b94), .val (.int z109_S0)] [(.int (1 : Int32)), (.int (4 : Int32))]))
        have hc123_111 : ((1 : Int32) < (4 : Int32)) := by decide
        refine own_go (fun t_ k => XS.icmpNo X110.here hx rfl (hb hby at_123) rfl (tlt hc123_111).2.2.2 k) ?_
        show WP p e below _ (T110.setTop (mkF m 126 #[.val (.int p1), .val (.int p2), .val (.int p3), .val (.int p4), .val (.int p5), .val (.int (4 : Int32)), .val (.int vi90), .val (.int vi91), .val (.int vi92), .val (.int vi93), .val (.ref b94), .val (.int z109_S0)] []))
        refine own_go (fun t_ k => XS.iload X110.here hx rfl (hb hby at_126) rfl k) ?_
        show WP p e below _ (T110.setTop (mkF m 128 #[.val (.int p1), .val (.int p2), .val (.int p3), .val (.int p4), .val (.int p5), .val (.int (4 : Int32)), .val (.int vi90), .val (.int vi91), .val (.int vi92), .val (.int vi93), .val (.ref b94), .val (.int z109_S0)] [(.int z109_S0)]))
        have J114 : ∀ (T114 : State) (ls114 : List Loc) (X114 : Stand p l e room_1 s m #[(.int p1), (.int p2), (.int p3), (.int p4), (.int p5)] below meth c T114 ls114 3 65539) (N114 : Fr n0 ls114) (e114 : T114.heap = T107.heap) (z113_S0 : Int32) (hz113_S0 : z113_S0 = (if z109_S0 = (0 : Int32) then (0 : Int32) else (if ((vi91.toInt8.toInt32).toInt8.toInt32) = vi91 then (1 : Int32) else (0 : Int32)))), WP p e below (GG (Q0 n0) s room_1.cells room_1.slots) (T114.setTop (mkF m 147 #[.val (.int p1), .val (.int p2), .val (.int p3), .val (.int p4), .val (.int p5), .val (.int (4 : Int32)), .val (.int vi90), .val (.int vi91), .val (.int vi92), .val (.int vi93), .val (.ref b94), .val (.int z109_S0)] [(.int z113_S0)])) := by
          intro T114 ls114 X114 N114 e114 z113_S0 hz113_S0
          show WP p e below _ (T114.setTop (mkF m 147 #[.val (.int p1), .val (.int p2), .val (.int p3), .val (.int p4), .val (.int p5), .val (.int (4 : Int32)), .val (.int vi90), .val (.int vi91), .val (.int vi92), .val (.int vi93), .val (.ref b94), .val (.int z109_S0)] [(.int z113_S0)]))
          refine own_go (fun t_ k => XS.istore X114.here hx rfl (hb hby at_147) rfl (l' := #[.val (.int p1), .val (.int p2), .val (.int p3), .val (.int p4), .val (.int p5), .val (.int (4 : Int32)), .val (.int vi90), .val (.int vi91), .val (.int vi92), .val (.int vi93), .val (.ref b94), .val (.int z113_S0)]) rfl k) ?_
          show WP p e below _ (T114.setTop (mkF m 149 #[.val (.int p1), .val (.int p2), .val (.int p3), .val (.int p4), .val (.int p5), .val (.int (4 : Int32)), .val (.int vi90), .val (.int vi91), .val (.int vi92), .val (.int vi93), .val (.ref b94), .val (.int z113_S0)] []))
          refine own_go (fun t_ k => XS.iload X114.here hx rfl (hb hby at_149) rfl k) ?_
          show WP p e below _ (T114.setTop (mkF m 151 #[.val (.int p1), .val (.int p2), .val (.int p3), .val (.int p4), .val (.int p5), .val (.int (4 : Int32)), .val (.int vi90), .val (.int vi91), .val (.int vi92), .val (.int vi93), .val (.ref b94), .val (.int z113_S0)] [(.int (4 : Int32))]))
          refine own_go (fun t_ k => XS.iconst X114.here hx rfl (hb hby at_151) k) ?_
          show WP p e below _ (T114.setTop (mkF m 152 #[.val (.int p1), .val (.int p2), .val (.int p3), .val (.int p4), .val (.int p5), .val (.int (4 : Int32)), .val (.int vi90), .val (.int vi91), .val (.int vi92), .val (.int vi93), .val (.ref b94), .val (.int z113_S0)] [(.int (2 : Int32)), (.int (4 : Int32))]))
          have hc152_115 : ((2 : Int32) < (4 : Int32)) := by decide
          refine own_go (fun t_ k => XS.icmpNo X114.here hx rfl (hb hby at_152) rfl (tlt hc152_115).2.2.2 k) ?_
          show WP p e below _ (T114.setTop (mkF m 155 #[.val (.int p1), .val (.int p2), .val (.int p3), .val (.int p4), .val (.int p5), .val (.int (4 : Int32)), .val (.int vi90), .val (.int vi91), .val (.int vi92), .val (.int vi93), .val (.ref b94), .val (.int z113_S0)] []))
          refine own_go (fun t_ k => XS.iload X114.here hx rfl (hb hby at_155) rfl k) ?_
          show WP p e below _ (T114.setTop (mkF m 157 #[.val (.int p1), .val (.int p2), .val (.int p3), .val (.int p4), .val (.int p5), .val (.int (4 : Int32)), .val (.int vi90), .val (.int vi91), .val (.int vi92), .val (.int vi93), .val (.ref b94), .val (.int z113_S0)] [(.int z113_S0)]))
          have J118 : ∀ (T118 : State) (ls118 : List Loc) (X118 : Stand p l e room_1 s m #[(.int p1), (.int p2), (.int p3), (.int p4), (.int p5)] below meth c T118 ls118 3 65539) (N118 : Fr n0 ls118) (e118 : T118.heap = T107.heap) (z117_S0 : Int32) (hz117_S0 : z117_S0 = (if z113_S0 = (0 : Int32) then (0 : Int32) else (if ((vi92.toInt8.toInt32).toInt8.toInt32) = vi92 then (1 : Int32) else (0 : Int32)))), WP p e below (GG (Q0 n0) s room_1.cells room_1.slots) (T118.setTop (mkF m 178 #[.val (.int p1), .val (.int p2), .val (.int p3), .val (.int p4), .val (.int p5), .val (.int (4 : Int32)), .val (.int vi90), .val (.int vi91), .val (.int vi92), .val (.int vi93), .val (.ref b94), .val (.int z113_S0)] [(.int z117_S0)])) := by
            intro T118 ls118 X118 N118 e118 z117_S0 hz117_S0
            show WP p e below _ (T118.setTop (mkF m 178 #[.val (.int p1), .val (.int p2), .val (.int p3), .val (.int p4), .val (.int p5), .val (.int (4 : Int32)), .val (.int vi90), .val (.int vi91), .val (.int vi92), .val (.int vi93), .val (.ref b94), .val (.int z113_S0)] [(.int z117_S0)]))
            refine own_go (fun t_ k => XS.istore X118.here hx rfl (hb hby at_178) rfl (l' := #[.val (.int p1), .val (.int p2), .val (.int p3), .val (.int p4), .val (.int p5), .val (.int (4 : Int32)), .val (.int vi90), .val (.int vi91), .val (.int vi92), .val (.int vi93), .val (.ref b94), .val (.int z117_S0)]) rfl k) ?_
            show WP p e below _ (T118.setTop (mkF m 180 #[.val (.int p1), .val (.int p2), .val (.int p3), .val (.int p4), .val (.int p5), .val (.int (4 : Int32)), .val (.int vi90), .val (.int vi91), .val (.int vi92), .val (.int vi93), .val (.ref b94), .val (.int z117_S0)] []))
            refine own_go (fun t_ k => XS.iload X118.here hx rfl (hb hby at_180) rfl k) ?_
            show WP p e below _ (T118.setTop (mkF m 182 #[.val (.int p1), .val (.int p2), .val (.int p3), .val (.int p4), .val (.int p5), .val (.int (4 : Int32)), .val (.int vi90), .val (.int vi91), .val (.int vi92), .val (.int vi93), .val (.ref b94), .val (.int z117_S0)] [(.int (4 : Int32))]))
            refine own_go (fun t_ k => XS.iconst X118.here hx rfl (hb hby at_182) k) ?_
            show WP p e below _ (T118.setTop (mkF m 183 #[.val (.int p1), .val (.int p2), .val (.int p3), .val (.int p4), .val (.int p5), .val (.int (4 : Int32)), .val (.int vi90), .val (.int vi91), .val (.int vi92), .val (.int vi93), .val (.ref b94), .val (.int z117_S0)] [(.int (3 : Int32)), (.int (4 : Int32))]))
            have hc183_119 : ((3 : Int32) < (4 : Int32)) := by decide
            refine own_go (fun t_ k => XS.icmpNo X118.here hx rfl (hb hby at_183) rfl (tlt hc183_119).2.2.2 k) ?_
            show WP p e below _ (T118.setTop (mkF m 186 #[.val (.int p1), .val (.int p2), .val (.int p3), .val (.int p4), .val (.int p5), .val (.int (4 : Int32)), .val (.int vi90), .val (.int vi91), .val (.int vi92), .val (.int vi93), .val (.ref b94), .val (.int z117_S0)] []))
            refine own_go (fun t_ k => XS.iload X118.here hx rfl (hb hby at_186) rfl k) ?_
            show WP p e below _ (T118.setTop (mkF m 188 #[.val (.int p1), .val (.int p2), .val (.int p3), .val (.int p4), .val (.int p5), .val (.int (4 : Int32)), .val (.int vi90), .val (.int vi91), .val (.int vi92), .val (.int vi93), .val (.ref b94), .val (.int z117_S0)] [(.int z117_S0)]))
            have J122 : ∀ (T122 : State) (ls122 : List Loc) (X122 : Stand p l e room_1 s m #[(.int p1), (.int p2), (.int p3), (.int p4), (.int p5)] below meth c T122 ls122 3 65539) (N122 : Fr n0 ls122) (e122 : T122.heap = T107.heap) (z121_S0 : Int32) (hz121_S0 : z121_S0 = (if z117_S0 = (0 : Int32) then (0 : Int32) else (if ((vi93.toInt8.toInt32).toInt8.toInt32) = vi93 then (1 : Int32) else (0 : Int32)))), WP p e below (GG (Q0 n0) s room_1.cells room_1.slots) (T122.setTop (mkF m 209 #[.val (.int p1), .val (.int p2), .val (.int p3), .val (.int p4), .val (.int p5), .val (.int (4 : Int32)), .val (.int vi90), .val (.int vi91), .val (.int vi92), .val (.int vi93), .val (.ref b94), .val (.int z117_S0)] [(.int z121_S0)])) := by
              intro T122 ls122 X122 N122 e122 z121_S0 hz121_S0
              show WP p e below _ (T122.setTop (mkF m 209 #[.val (.int p1), .val (.int p2), .val (.int p3), .val (.int p4), .val (.int p5), .val (.int (4 : Int32)), .val (.int vi90), .val (.int vi91), .val (.int vi92), .val (.int vi93), .val (.ref b94), .val (.int z117_S0)] [(.int z121_S0)]))
              refine own_go (fun t_ k => XS.istore X122.here hx rfl (hb hby at_209) rfl (l' := #[.val (.int p1), .val (.int p2), .val (.int p3), .val (.int p4), .val (.int p5), .val (.int (4 : Int32)), .val (.int vi90), .val (.int vi91), .val (.int vi92), .val (.int vi93), .val (.ref b94), .val (.int z121_S0)]) rfl k) ?_
              show WP p e below _ (T122.setTop (mkF m 211 #[.val (.int p1), .val (.int p2), .val (.int p3), .val (.int p4), .val (.int p5), .val (.int (4 : Int32)), .val (.int vi90), .val (.int vi91), .val (.int vi92), .val (.int vi93), .val (.ref b94), .val (.int z121_S0)] []))
              refine own_go (fun t_ k => XS.iload X122.here hx rfl (hb hby at_211) rfl k) ?_
              show WP p e below _ (T122.setTop (mkF m 213 #[.val (.int p1), .val (.int p2), .val (.int p3), .val (.int p4), .val (.int p5), .val (.int (4 : Int32)), .val (.int vi90), .val (.int vi91), .val (.int vi92), .val (.int vi93), .val (.ref b94), .val (.int z121_S0)] [(.int z121_S0)]))
              exact own_retZ X122 hx Bd.notSynchronized Bd.returns (hb hby at_213) (by rw [hz121_S0]; (repeat' split); all_goals first | exact Or.inl rfl | exact Or.inr rfl) (show Q0 n0 _ _ _ from ⟨congrArg (fun z => some (Value.int z)) (own_law_4 (p1 := p1) (p2 := p2) (p3 := p3) (p4 := p4) (p5 := p5) he1 he90 he91 he92 he93 he98 hz100_S0 hz109_S0 hz113_S0 hz117_S0 hz121_S0), N122⟩) (by decide) (by decide)
            by_cases hc188_120 : z117_S0 = (0 : Int32)
            · refine own_go (fun t_ k => XS.ifYes X118.here hx rfl (pc0 := 188) (pc' := 208) rfl (hb hby at_188) rfl ((if0 _ _).trans (teq hc188_120).1) (by decide) (by decide) k) ?_
              show WP p e below _ (T118.setTop (mkF m 208 #[.val (.int p1), .val (.int p2), .val (.int p3), .val (.int p4), .val (.int p5), .val (.int (4 : Int32)), .val (.int vi90), .val (.int vi91), .val (.int vi92), .val (.int vi93), .val (.ref b94), .val (.int z117_S0)] []))
              refine own_go (fun t_ k => XS.iconst X118.here hx rfl (hb hby at_208) k) ?_
              show WP p e below _ (T118.setTop (mkF m 209 #[.val (.int p1), .val (.int p2), .val (.int p3), .val (.int p4), .val (.int p5), .val (.int (4 : Int32)), .val (.int vi90), .val (.int vi91), .val (.int vi92), .val (.int vi93), .val (.ref b94), .val (.int z117_S0)] [(.int (0 : Int32))]))
              exact J122 T118 _ X118 N118 e118 _ (by rw [if_pos hc188_120])
            · refine own_go (fun t_ k => XS.ifNo X118.here hx rfl (hb hby at_188) rfl ((if0 _ _).trans (feq hc188_120).1) k) ?_
              show WP p e below _ (T118.setTop (mkF m 191 #[.val (.int p1), .val (.int p2), .val (.int p3), .val (.int p4), .val (.int p5), .val (.int (4 : Int32)), .val (.int vi90), .val (.int vi91), .val (.int vi92), .val (.int vi93), .val (.ref b94), .val (.int z117_S0)] []))
              refine own_go (fun t_ k => XS.aload X118.here hx rfl (hb hby at_191) rfl rfl k) ?_
              show WP p e below _ (T118.setTop (mkF m 193 #[.val (.int p1), .val (.int p2), .val (.int p3), .val (.int p4), .val (.int p5), .val (.int (4 : Int32)), .val (.int vi90), .val (.int vi91), .val (.int vi92), .val (.int vi93), .val (.ref b94), .val (.int z117_S0)] [(.ref b94)]))
              refine own_go (fun t_ k => X118.ldc2Long hx hown (mvT hZ (hw _ (List.mem_of_getElem? (i := 30) rfl))) (g := (mkF m 193 #[.val (.int p1), .val (.int p2), .val (.int p3), .val (.int p4), .val (.int p5), .val (.int (4 : Int32)), .val (.int vi90), .val (.int vi91), .val (.int vi92), .val (.int vi93), .val (.ref b94), .val (.int z117_S0)] [(.ref b94)])) rfl (hb hby at_193) _ k) ?_
              show WP p e below _ (T118.setTop (mkF m 196 #[.val (.int p1), .val (.int p2), .val (.int p3), .val (.int p4), .val (.int p5), .val (.int (4 : Int32)), .val (.int vi90), .val (.int vi91), .val (.int vi92), .val (.int vi93), .val (.ref b94), .val (.int z117_S0)] [(.long (3 : Int64)), (.ref b94)]))
              obtain ⟨cq123, kq123, q123a, q123b, q123c⟩ := isOf (T := T118) hZ e118 P107.1
              obtain ⟨_, _, ⟨T123, L123, k123, n123⟩, -, X123, ⟨Lc123, hQ123, l123, y123, z123⟩, st123⟩ := X118.virtualBack hx (y := (⟨"com/example/vestry/vestry/ByteBlocks", "at", "(J)B"⟩ : MethodName)) (z := (⟨"com/example/vestry/vestry/ByteBlocks", "at", "(J)B"⟩ : MethodName)) hown (mvT hZ (hw _ (List.mem_of_getElem? (i := 24) rfl))) (mvT hZ (hw _ (List.mem_of_getElem? (i := 25) rfl))) (notFace_of_selects (args := #[]) (mvT hZ (hw _ (List.mem_of_getElem? (i := 27) rfl)))) (mvT hZ (hw _ (List.mem_of_getElem? (i := 27) rfl))) (mvT hZ (hw _ (List.mem_of_getElem? (i := 26) rfl))) (by decide) (backOf (W := 0) (rm_at3 l Z a0 hw [] b94 (3 : Int64) t95 kk95 b96 kb96 (4 : Int64) [(vi90.toInt8.toInt32), (vi91.toInt8.toInt32), (vi92.toInt8.toInt32), (vi93.toInt8.toInt32)] T107.heap n0 P107 rfl) hZ (hw _ (List.mem_of_getElem? (i := 28) rfl)) (hw _ (List.mem_of_getElem? (i := 2) rfl)) (by decide) (by decide)) q123a q123c (g := (mkF m 196 #[.val (.int p1), .val (.int p2), .val (.int p3), .val (.int p4), .val (.int p5), .val (.int (4 : Int32)), .val (.int vi90), .val (.int vi91), .val (.int vi92), .val (.int vi93), .val (.ref b94), .val (.int z117_S0)] [(.long (3 : Int64)), (.ref b94)])) rfl (by rw [hml]; rfl) (Steps.refl _) (argsL := [(.long (3 : Int64))]) (rest := []) (lenOf pd_2 rfl) rfl (by show 2 * 0 + _ ≤ _; exact Nat.le_of_eq rfl) (hb hby at_196) (fun _ _ => ⟨rfl, e118, (by decide : 3 + 0 ≤ _), (by decide : 65539 + 0 ≤ _)⟩)
              dsimp only [Pt.U, Pt.locs, Pt.cells, Pt.slots] at X123 l123 y123 z123 st123 hQ123
              subst l123 y123 z123
              obtain ⟨rfl, N123q, e123⟩ := hQ123
              have N123 := Fr.app N118 N123q
              replace X123 : Stand p l e room_1 s m _ below meth c T123 _ 3 65539 := X123
              refine own_go (fun t_ k => st123.trans k) ?_
              show WP p e below _ (T123.setTop (mkF m 199 #[.val (.int p1), .val (.int p2), .val (.int p3), .val (.int p4), .val (.int p5), .val (.int (4 : Int32)), .val (.int vi90), .val (.int vi91), .val (.int vi92), .val (.int vi93), .val (.ref b94), .val (.int z117_S0)] [(.int ((vi93.toInt8.toInt32).toInt8.toInt32))]))
              refine own_go (fun t_ k => XS.iload X123.here hx rfl (hb hby at_199) rfl k) ?_
              show WP p e below _ (T123.setTop (mkF m 201 #[.val (.int p1), .val (.int p2), .val (.int p3), .val (.int p4), .val (.int p5), .val (.int (4 : Int32)), .val (.int vi90), .val (.int vi91), .val (.int vi92), .val (.int vi93), .val (.ref b94), .val (.int z117_S0)] [(.int vi93), (.int ((vi93.toInt8.toInt32).toInt8.toInt32))]))
              by_cases hc201_124 : ((vi93.toInt8.toInt32).toInt8.toInt32) = vi93
              · refine own_go (fun t_ k => XS.icmpNo X123.here hx rfl (hb hby at_201) rfl (teq hc201_124).2 k) ?_
                show WP p e below _ (T123.setTop (mkF m 204 #[.val (.int p1), .val (.int p2), .val (.int p3), .val (.int p4), .val (.int p5), .val (.int (4 : Int32)), .val (.int vi90), .val (.int vi91), .val (.int vi92), .val (.int vi93), .val (.ref b94), .val (.int z117_S0)] []))
                refine own_go (fun t_ k => XS.iconst X123.here hx rfl (hb hby at_204) k) ?_
                show WP p e below _ (T123.setTop (mkF m 205 #[.val (.int p1), .val (.int p2), .val (.int p3), .val (.int p4), .val (.int p5), .val (.int (4 : Int32)), .val (.int vi90), .val (.int vi91), .val (.int vi92), .val (.int vi93), .val (.ref b94), .val (.int z117_S0)] [(.int (1 : Int32))]))
                refine own_go (fun t_ k => XS.goto X123.here hx rfl (pc0 := 205) (pc' := 209) rfl (hb hby at_205) (by decide) (by decide) k) ?_
                show WP p e below _ (T123.setTop (mkF m 209 #[.val (.int p1), .val (.int p2), .val (.int p3), .val (.int p4), .val (.int p5), .val (.int (4 : Int32)), .val (.int vi90), .val (.int vi91), .val (.int vi92), .val (.int vi93), .val (.ref b94), .val (.int z117_S0)] [(.int (1 : Int32))]))
                exact J122 T123 _ X123 N123 e123 _ (by rw [if_neg hc188_120, if_pos hc201_124])
              · refine own_go (fun t_ k => XS.icmpYes X123.here hx rfl (pc0 := 201) (pc' := 208) rfl (hb hby at_201) rfl (feq hc201_124).2 (by decide) (by decide) k) ?_
                show WP p e below _ (T123.setTop (mkF m 208 #[.val (.int p1), .val (.int p2), .val (.int p3), .val (.int p4), .val (.int p5), .val (.int (4 : Int32)), .val (.int vi90), .val (.int vi91), .val (.int vi92), .val (.int vi93), .val (.ref b94), .val (.int z117_S0)] []))
                refine own_go (fun t_ k => XS.iconst X123.here hx rfl (hb hby at_208) k) ?_
                show WP p e below _ (T123.setTop (mkF m 209 #[.val (.int p1), .val (.int p2), .val (.int p3), .val (.int p4), .val (.int p5), .val (.int (4 : Int32)), .val (.int vi90), .val (.int vi91), .val (.int vi92), .val (.int vi93), .val (.ref b94), .val (.int z117_S0)] [(.int (0 : Int32))]))
                exact J122 T123 _ X123 N123 e123 _ (by rw [if_neg hc188_120, if_neg hc201_124])
          by_cases hc157_116 : z113_S0 = (0 : Int32)
          · refine own_go (fun t_ k => XS.ifYes X114.here hx rfl (pc0 := 157) (pc' := 177) rfl (hb hby at_157) rfl ((if0 _ _).trans (teq hc157_116).1) (by decide) (by decide) k) ?_
            show WP p e below _ (T114.setTop (mkF m 177 #[.val (.int p1), .val (.int p2), .val (.int p3), .val (.int p4), .val (.int p5), .val (.int (4 : Int32)), .val (.int vi90), .val (.int vi91), .val (.int vi92), .val (.int vi93), .val (.ref b94), .val (.int z113_S0)] []))
            refine own_go (fun t_ k => XS.iconst X114.here hx rfl (hb hby at_177) k) ?_
            show WP p e below _ (T114.setTop (mkF m 178 #[.val (.int p1), .val (.int p2), .val (.int p3), .val (.int p4), .val (.int p5), .val (.int (4 : Int32)), .val (.int vi90), .val (.int vi91), .val (.int vi92), .val (.int vi93), .val (.ref b94), .val (.int z113_S0)] [(.int (0 : Int32))]))
            exact J118 T114 _ X114 N114 e114 _ (by rw [if_pos hc157_116])
          · refine own_go (fun t_ k => XS.ifNo X114.here hx rfl (hb hby at_157) rfl ((if0 _ _).trans (feq hc157_116).1) k) ?_
            show WP p e below _ (T114.setTop (mkF m 160 #[.val (.int p1), .val (.int p2), .val (.int p3), .val (.int p4), .val (.int p5), .val (.int (4 : Int32)), .val (.int vi90), .val (.int vi91), .val (.int vi92), .val (.int vi93), .val (.ref b94), .val (.int z113_S0)] []))
            refine own_go (fun t_ k => XS.aload X114.here hx rfl (hb hby at_160) rfl rfl k) ?_
            show WP p e below _ (T114.setTop (mkF m 162 #[.val (.int p1), .val (.int p2), .val (.int p3), .val (.int p4), .val (.int p5), .val (.int (4 : Int32)), .val (.int vi90), .val (.int vi91), .val (.int vi92), .val (.int vi93), .val (.ref b94), .val (.int z113_S0)] [(.ref b94)]))
            refine own_go (fun t_ k => X114.ldc2Long hx hown (mvT hZ (hw _ (List.mem_of_getElem? (i := 29) rfl))) (g := (mkF m 162 #[.val (.int p1), .val (.int p2), .val (.int p3), .val (.int p4), .val (.int p5), .val (.int (4 : Int32)), .val (.int vi90), .val (.int vi91), .val (.int vi92), .val (.int vi93), .val (.ref b94), .val (.int z113_S0)] [(.ref b94)])) rfl (hb hby at_162) _ k) ?_
            show WP p e below _ (T114.setTop (mkF m 165 #[.val (.int p1), .val (.int p2), .val (.int p3), .val (.int p4), .val (.int p5), .val (.int (4 : Int32)), .val (.int vi90), .val (.int vi91), .val (.int vi92), .val (.int vi93), .val (.ref b94), .val (.int z113_S0)] [(.long (2 : Int64)), (.ref b94)]))
            obtain ⟨cq125, kq125, q125a, q125b, q125c⟩ := isOf (T := T114) hZ e114 P107.1
            obtain ⟨_, _, ⟨T125, L125, k125, n125⟩, -, X125, ⟨Lc125, hQ125, l125, y125, z125⟩, st125⟩ := X114.virtualBack hx (y := (⟨"com/example/vestry/vestry/ByteBlocks", "at", "(J)B"⟩ : MethodName)) (z := (⟨"com/example/vestry/vestry/ByteBlocks", "at", "(J)B"⟩ : MethodName)) hown (mvT hZ (hw _ (List.mem_of_getElem? (i := 24) rfl))) (mvT hZ (hw _ (List.mem_of_getElem? (i := 25) rfl))) (notFace_of_selects (args := #[]) (mvT hZ (hw _ (List.mem_of_getElem? (i := 27) rfl)))) (mvT hZ (hw _ (List.mem_of_getElem? (i := 27) rfl))) (mvT hZ (hw _ (List.mem_of_getElem? (i := 26) rfl))) (by decide) (backOf (W := 0) (rm_at2 l Z a0 hw [] b94 (2 : Int64) t95 kk95 b96 kb96 (4 : Int64) [(vi90.toInt8.toInt32), (vi91.toInt8.toInt32), (vi92.toInt8.toInt32), (vi93.toInt8.toInt32)] T107.heap n0 P107 rfl) hZ (hw _ (List.mem_of_getElem? (i := 28) rfl)) (hw _ (List.mem_of_getElem? (i := 2) rfl)) (by decide) (by decide)) q125a q125c (g := (mkF m 165 #[.val (.int p1), .val (.int p2), .val (.int p3), .val (.int p4), .val (.int p5), .val (.int (4 : Int32)), .val (.int vi90), .val (.int vi91), .val (.int vi92), .val (.int vi93), .val (.ref b94), .val (.int z113_S0)] [(.long (2 : Int64)), (.ref b94)])) rfl (by rw [hml]; rfl) (Steps.refl _) (argsL := [(.long (2 : Int64))]) (rest := []) (lenOf pd_2 rfl) rfl (by show 2 * 0 + _ ≤ _; exact Nat.le_of_eq rfl) (hb hby at_165) (fun _ _ => ⟨rfl, e114, (by decide : 3 + 0 ≤ _), (by decide : 65539 + 0 ≤ _)⟩)
            dsimp only [Pt.U, Pt.locs, Pt.cells, Pt.slots] at X125 l125 y125 z125 st125 hQ125
            subst l125 y125 z125
            obtain ⟨rfl, N125q, e125⟩ := hQ125
            have N125 := Fr.app N114 N125q
            replace X125 : Stand p l e room_1 s m _ below meth c T125 _ 3 65539 := X125
            refine own_go (fun t_ k => st125.trans k) ?_
            show WP p e below _ (T125.setTop (mkF m 168 #[.val (.int p1), .val (.int p2), .val (.int p3), .val (.int p4), .val (.int p5), .val (.int (4 : Int32)), .val (.int vi90), .val (.int vi91), .val (.int vi92), .val (.int vi93), .val (.ref b94), .val (.int z113_S0)] [(.int ((vi92.toInt8.toInt32).toInt8.toInt32))]))
            refine own_go (fun t_ k => XS.iload X125.here hx rfl (hb hby at_168) rfl k) ?_
            show WP p e below _ (T125.setTop (mkF m 170 #[.val (.int p1), .val (.int p2), .val (.int p3), .val (.int p4), .val (.int p5), .val (.int (4 : Int32)), .val (.int vi90), .val (.int vi91), .val (.int vi92), .val (.int vi93), .val (.ref b94), .val (.int z113_S0)] [(.int vi92), (.int ((vi92.toInt8.toInt32).toInt8.toInt32))]))
            by_cases hc170_126 : ((vi92.toInt8.toInt32).toInt8.toInt32) = vi92
            · refine own_go (fun t_ k => XS.icmpNo X125.here hx rfl (hb hby at_170) rfl (teq hc170_126).2 k) ?_
              show WP p e below _ (T125.setTop (mkF m 173 #[.val (.int p1), .val (.int p2), .val (.int p3), .val (.int p4), .val (.int p5), .val (.int (4 : Int32)), .val (.int vi90), .val (.int vi91), .val (.int vi92), .val (.int vi93), .val (.ref b94), .val (.int z113_S0)] []))
              refine own_go (fun t_ k => XS.iconst X125.here hx rfl (hb hby at_173) k) ?_
              show WP p e below _ (T125.setTop (mkF m 174 #[.val (.int p1), .val (.int p2), .val (.int p3), .val (.int p4), .val (.int p5), .val (.int (4 : Int32)), .val (.int vi90), .val (.int vi91), .val (.int vi92), .val (.int vi93), .val (.ref b94), .val (.int z113_S0)] [(.int (1 : Int32))]))
              refine own_go (fun t_ k => XS.goto X125.here hx rfl (pc0 := 174) (pc' := 178) rfl (hb hby at_174) (by decide) (by decide) k) ?_
              show WP p e below _ (T125.setTop (mkF m 178 #[.val (.int p1), .val (.int p2), .val (.int p3), .val (.int p4), .val (.int p5), .val (.int (4 : Int32)), .val (.int vi90), .val (.int vi91), .val (.int vi92), .val (.int vi93), .val (.ref b94), .val (.int z113_S0)] [(.int (1 : Int32))]))
              exact J118 T125 _ X125 N125 e125 _ (by rw [if_neg hc157_116, if_pos hc170_126])
            · refine own_go (fun t_ k => XS.icmpYes X125.here hx rfl (pc0 := 170) (pc' := 177) rfl (hb hby at_170) rfl (feq hc170_126).2 (by decide) (by decide) k) ?_
              show WP p e below _ (T125.setTop (mkF m 177 #[.val (.int p1), .val (.int p2), .val (.int p3), .val (.int p4), .val (.int p5), .val (.int (4 : Int32)), .val (.int vi90), .val (.int vi91), .val (.int vi92), .val (.int vi93), .val (.ref b94), .val (.int z113_S0)] []))
              refine own_go (fun t_ k => XS.iconst X125.here hx rfl (hb hby at_177) k) ?_
              show WP p e below _ (T125.setTop (mkF m 178 #[.val (.int p1), .val (.int p2), .val (.int p3), .val (.int p4), .val (.int p5), .val (.int (4 : Int32)), .val (.int vi90), .val (.int vi91), .val (.int vi92), .val (.int vi93), .val (.ref b94), .val (.int z113_S0)] [(.int (0 : Int32))]))
              exact J118 T125 _ X125 N125 e125 _ (by rw [if_neg hc157_116, if_neg hc170_126])
        by_cases hc128_112 : z109_S0 = (0 : Int32)
        · refine own_go (fun t_ k => XS.ifYes X110.here hx rfl (pc0 := 128) (pc' := 146) rfl (hb hby at_128) rfl ((if0 _ _).trans (teq hc128_112).1) (by decide) (by decide) k) ?_
          show WP p e below _ (T110.setTop (mkF m 146 #[.val (.int p1), .val (.int p2), .val (.int p3), .val (.int p4), .val (.int p5), .val (.int (4 : Int32)), .val (.int vi90), .val (.int vi91), .val (.int vi92), .val (.int vi93), .val (.ref b94), .val (.int z109_S0)] []))
          refine own_go (fun t_ k => XS.iconst X110.here hx rfl (hb hby at_146) k) ?_
          show WP p e below _ (T110.setTop (mkF m 147 #[.val (.int p1), .val (.int p2), .val (.int p3), .val (.int p4), .val (.int p5), .val (.int (4 : Int32)), .val (.int vi90), .val (.int vi91), .val (.int vi92), .val (.int vi93), .val (.ref b94), .val (.int z109_S0)] [(.int (0 : Int32))]))
          exact J114 T110 _ X110 N110 e110 _ (by rw [if_pos hc128_112])
        · refine own_go (fun t_ k => XS.ifNo X110.here hx rfl (hb hby at_128) rfl ((if0 _ _).trans (feq hc128_112).1) k) ?_
          show WP p e below _ (T110.setTop (mkF m 131 #[.val (.int p1), .val (.int p2), .val (.int p3), .val (.int p4), .val (.int p5), .val (.int (4 : Int32)), .val (.int vi90), .val (.int vi91), .val (.int vi92), .val (.int vi93), .val (.ref b94), .val (.int z109_S0)] []))
          refine own_go (fun t_ k => XS.aload X110.here hx rfl (hb hby at_131) rfl rfl k) ?_
          show WP p e below _ (T110.setTop (mkF m 133 #[.val (.int p1), .val (.int p2), .val (.int p3), .val (.int p4), .val (.int p5), .val (.int (4 : Int32)), .val (.int vi90), .val (.int vi91), .val (.int vi92), .val (.int vi93), .val (.ref b94), .val (.int z109_S0)] [(.ref b94)]))
          refine own_go (fun t_ k => XS.lconst X110.here hx rfl (hb hby at_133) k) ?_
          show WP p e below _ (T110.setTop (mkF m 134 #[.val (.int p1), .val (.int p2), .val (.int p3), .val (.int p4), .val (.int p5), .val (.int (4 : Int32)), .val (.int vi90), .val (.int vi91), .val (.int vi92), .val (.int vi93), .val (.ref b94), .val (.int z109_S0)] [(.long (1 : Int64)), (.ref b94)]))
          obtain ⟨cq127, kq127, q127a, q127b, q127c⟩ := isOf (T := T110) hZ e110 P107.1
          obtain ⟨_, _, ⟨T127, L127, k127, n127⟩, -, X127, ⟨Lc127, hQ127, l127, y127, z127⟩, st127⟩ := X110.virtualBack hx (y := (⟨"com/example/vestry/vestry/ByteBlocks", "at", "(J)B"⟩ : MethodName)) (z := (⟨"com/example/vestry/vestry/ByteBlocks", "at", "(J)B"⟩ : MethodName)) hown (mvT hZ (hw _ (List.mem_of_getElem? (i := 24) rfl))) (mvT hZ (hw _ (List.mem_of_getElem? (i := 25) rfl))) (notFace_of_selects (args := #[]) (mvT hZ (hw _ (List.mem_of_getElem? (i := 27) rfl)))) (mvT hZ (hw _ (List.mem_of_getElem? (i := 27) rfl))) (mvT hZ (hw _ (List.mem_of_getElem? (i := 26) rfl))) (by decide) (backOf (W := 0) (rm_at1 l Z a0 hw [] b94 (1 : Int64) t95 kk95 b96 kb96 (4 : Int64) [(vi90.toInt8.toInt32), (vi91.toInt8.toInt32), (vi92.toInt8.toInt32), (vi93.toInt8.toInt32)] T107.heap n0 P107 rfl) hZ (hw _ (List.mem_of_getElem? (i := 28) rfl)) (hw _ (List.mem_of_getElem? (i := 2) rfl)) (by decide) (by decide)) q127a q127c (g := (mkF m 134 #[.val (.int p1), .val (.int p2), .val (.int p3), .val (.int p4), .val (.int p5), .val (.int (4 : Int32)), .val (.int vi90), .val (.int vi91), .val (.int vi92), .val (.int vi93), .val (.ref b94), .val (.int z109_S0)] [(.long (1 : Int64)), (.ref b94)])) rfl (by rw [hml]; rfl) (Steps.refl _) (argsL := [(.long (1 : Int64))]) (rest := []) (lenOf pd_2 rfl) rfl (by show 2 * 0 + _ ≤ _; exact Nat.le_of_eq rfl) (hb hby at_134) (fun _ _ => ⟨rfl, e110, (by decide : 3 + 0 ≤ _), (by decide : 65539 + 0 ≤ _)⟩)
          dsimp only [Pt.U, Pt.locs, Pt.cells, Pt.slots] at X127 l127 y127 z127 st127 hQ127
          subst l127 y127 z127
          obtain ⟨rfl, N127q, e127⟩ := hQ127
          have N127 := Fr.app N110 N127q
          replace X127 : Stand p l e room_1 s m _ below meth c T127 _ 3 65539 := X127
          refine own_go (fun t_ k => st127.trans k) ?_
          show WP p e below _ (T127.setTop (mkF m 137 #[.val (.int p1), .val (.int p2), .val (.int p3), .val (.int p4), .val (.int p5), .val (.int (4 : Int32)), .val (.int vi90), .val (.int vi91), .val (.int vi92), .val (.int vi93), .val (.ref b94), .val (.int z109_S0)] [(.int ((vi91.toInt8.toInt32).toInt8.toInt32))]))
          refine own_go (fun t_ k => XS.iload X127.here hx rfl (hb hby at_137) rfl k) ?_
          show WP p e below _ (T127.setTop (mkF m 139 #[.val (.int p1), .val (.int p2), .val (.int p3), .val (.int p4), .val (.int p5), .val (.int (4 : Int32)), .val (.int vi90), .val (.int vi91), .val (.int vi92), .val (.int vi93), .val (.ref b94), .val (.int z109_S0)] [(.int vi91), (.int ((vi91.toInt8.toInt32).toInt8.toInt32))]))
          by_cases hc139_128 : ((vi91.toInt8.toInt32).toInt8.toInt32) = vi91
          · refine own_go (fun t_ k => XS.icmpNo X127.here hx rfl (hb hby at_139) rfl (teq hc139_128).2 k) ?_
            show WP p e below _ (T127.setTop (mkF m 142 #[.val (.int p1), .val (.int p2), .val (.int p3), .val (.int p4), .val (.int p5), .val (.int (4 : Int32)), .val (.int vi90), .val (.int vi91), .val (.int vi92), .val (.int vi93), .val (.ref b94), .val (.int z109_S0)] []))
            refine own_go (fun t_ k => XS.iconst X127.here hx rfl (hb hby at_142) k) ?_
            show WP p e below _ (T127.setTop (mkF m 143 #[.val (.int p1), .val (.int p2), .val (.int p3), .val (.int p4), .val (.int p5), .val (.int (4 : Int32)), .val (.int vi90), .val (.int vi91), .val (.int vi92), .val (.int vi93), .val (.ref b94), .val (.int z109_S0)] [(.int (1 : Int32))]))
            refine own_go (fun t_ k => XS.goto X127.here hx rfl (pc0 := 143) (pc' := 147) rfl (hb hby at_143) (by decide) (by decide) k) ?_
            show WP p e below _ (T127.setTop (mkF m 147 #[.val (.int p1), .val (.int p2), .val (.int p3), .val (.int p4), .val (.int p5), .val (.int (4 : Int32)), .val (.int vi90), .val (.int vi91), .val (.int vi92), .val (.int vi93), .val (.ref b94), .val (.int z109_S0)] [(.int (1 : Int32))]))
            exact J114 T127 _ X127 N127 e127 _ (by rw [if_neg hc128_112, if_pos hc139_128])
          · refine own_go (fun t_ k => XS.icmpYes X127.here hx rfl (pc0 := 139) (pc' := 146) rfl (hb hby at_139) rfl (feq hc139_128).2 (by decide) (by decide) k) ?_
            show WP p e below _ (T127.setTop (mkF m 146 #[.val (.int p1), .val (.int p2), .val (.int p3), .val (.int p4), .val (.int p5), .val (.int (4 : Int32)), .val (.int vi90), .val (.int vi91), .val (.int vi92), .val (.int vi93), .val (.ref b94), .val (.int z109_S0)] []))
            refine own_go (fun t_ k => XS.iconst X127.here hx rfl (hb hby at_146) k) ?_
            show WP p e below _ (T127.setTop (mkF m 147 #[.val (.int p1), .val (.int p2), .val (.int p3), .val (.int p4), .val (.int p5), .val (.int (4 : Int32)), .val (.int vi90), .val (.int vi91), .val (.int vi92), .val (.int vi93), .val (.ref b94), .val (.int z109_S0)] [(.int (0 : Int32))]))
            exact J114 T127 _ X127 N127 e127 _ (by rw [if_neg hc128_112, if_neg hc139_128])
      by_cases hc99_108 : z100_S0 = (0 : Int32)
      · refine own_go (fun t_ k => XS.ifYes X107.here hx rfl (pc0 := 99) (pc' := 117) rfl (hb hby at_99) rfl ((if0 _ _).trans (teq hc99_108).1) (by decide) (by decide) k) ?_
        show WP p e below _ (T107.setTop (mkF m 117 #[.val (.int p1), .val (.int p2), .val (.int p3), .val (.int p4), .val (.int p5), .val (.int (4 : Int32)), .val (.int vi90), .val (.int vi91), .val (.int vi92), .val (.int vi93), .val (.ref b94), .val (.int z100_S0)] []))
        refine own_go (fun t_ k => XS.iconst X107.here hx rfl (hb hby at_117) k) ?_
        show WP p e below _ (T107.setTop (mkF m 118 #[.val (.int p1), .val (.int p2), .val (.int p3), .val (.int p4), .val (.int p5), .val (.int (4 : Int32)), .val (.int vi90), .val (.int vi91), .val (.int vi92), .val (.int vi93), .val (.ref b94), .val (.int z100_S0)] [(.int (0 : Int32))]))
        exact J110 T107 _ X107 N107 rfl _ (by rw [if_pos hc99_108])
      · refine own_go (fun t_ k => XS.ifNo X107.here hx rfl (hb hby at_99) rfl ((if0 _ _).trans (feq hc99_108).1) k) ?_
        show WP p e below _ (T107.setTop (mkF m 102 #[.val (.int p1), .val (.int p2), .val (.int p3), .val (.int p4), .val (.int p5), .val (.int (4 : Int32)), .val (.int vi90), .val (.int vi91), .val (.int vi92), .val (.int vi93), .val (.ref b94), .val (.int z100_S0)] []))
        refine own_go (fun t_ k => XS.aload X107.here hx rfl (hb hby at_102) rfl rfl k) ?_
        show WP p e below _ (T107.setTop (mkF m 104 #[.val (.int p1), .val (.int p2), .val (.int p3), .val (.int p4), .val (.int p5), .val (.int (4 : Int32)), .val (.int vi90), .val (.int vi91), .val (.int vi92), .val (.int vi93), .val (.ref b94), .val (.int z100_S0)] [(.ref b94)]))
        refine own_go (fun t_ k => XS.lconst X107.here hx rfl (hb hby at_104) k) ?_
        show WP p e below _ (T107.setTop (mkF m 105 #[.val (.int p1), .val (.int p2), .val (.int p3), .val (.int p4), .val (.int p5), .val (.int (4 : Int32)), .val (.int vi90), .val (.int vi91), .val (.int vi92), .val (.int vi93), .val (.ref b94), .val (.int z100_S0)] [(.long (0 : Int64)), (.ref b94)]))
        obtain ⟨cq129, kq129, q129a, q129b, q129c⟩ := isOf (T := T107) hZ rfl P107.1
        obtain ⟨_, _, ⟨T129, L129, k129, n129⟩, -, X129, ⟨Lc129, hQ129, l129, y129, z129⟩, st129⟩ := X107.virtualBack hx (y := (⟨"com/example/vestry/vestry/ByteBlocks", "at", "(J)B"⟩ : MethodName)) (z := (⟨"com/example/vestry/vestry/ByteBlocks", "at", "(J)B"⟩ : MethodName)) hown (mvT hZ (hw _ (List.mem_of_getElem? (i := 24) rfl))) (mvT hZ (hw _ (List.mem_of_getElem? (i := 25) rfl))) (notFace_of_selects (args := #[]) (mvT hZ (hw _ (List.mem_of_getElem? (i := 27) rfl)))) (mvT hZ (hw _ (List.mem_of_getElem? (i := 27) rfl))) (mvT hZ (hw _ (List.mem_of_getElem? (i := 26) rfl))) (by decide) (backOf (W := 0) (rm_at0 l Z a0 hw [] b94 (0 : Int64) t95 kk95 b96 kb96 (4 : Int64) [(vi90.toInt8.toInt32), (vi91.toInt8.toInt32), (vi92.toInt8.toInt32), (vi93.toInt8.toInt32)] T107.heap n0 P107 rfl) hZ (hw _ (List.mem_of_getElem? (i := 28) rfl)) (hw _ (List.mem_of_getElem? (i := 2) rfl)) (by decide) (by decide)) q129a q129c (g := (mkF m 105 #[.val (.int p1), .val (.int p2), .val (.int p3), .val (.int p4), .val (.int p5), .val (.int (4 : Int32)), .val (.int vi90), .val (.int vi91), .val (.int vi92), .val (.int vi93), .val (.ref b94), .val (.int z100_S0)] [(.long (0 : Int64)), (.ref b94)])) rfl (by rw [hml]; rfl) (Steps.refl _) (argsL := [(.long (0 : Int64))]) (rest := []) (lenOf pd_2 rfl) rfl (by show 2 * 0 + _ ≤ _; exact Nat.le_of_eq rfl) (hb hby at_105) (fun _ _ => ⟨rfl, rfl, (by decide : 3 + 0 ≤ _), (by decide : 65539 + 0 ≤ _)⟩)
        dsimp only [Pt.U, Pt.locs, Pt.cells, Pt.slots] at X129 l129 y129 z129 st129 hQ129
        subst l129 y129 z129
        obtain ⟨rfl, N129q, e129⟩ := hQ129
        have N129 := Fr.app N107 N129q
        replace X129 : Stand p l e room_1 s m _ below meth c T129 _ 3 65539 := X129
        refine own_go (fun t_ k => st129.trans k) ?_
        show WP p e below _ (T129.setTop (mkF m 108 #[.val (.int p1), .val (.int p2), .val (.int p3), .val (.int p4), .val (.int p5), .val (.int (4 : Int32)), .val (.int vi90), .val (.int vi91), .val (.int vi92), .val (.int vi93), .val (.ref b94), .val (.int z100_S0)] [(.int ((vi90.toInt8.toInt32).toInt8.toInt32))]))
        refine own_go (fun t_ k => XS.iload X129.here hx rfl (hb hby at_108) rfl k) ?_
        show WP p e below _ (T129.setTop (mkF m 110 #[.val (.int p1), .val (.int p2), .val (.int p3), .val (.int p4), .val (.int p5), .val (.int (4 : Int32)), .val (.int vi90), .val (.int vi91), .val (.int vi92), .val (.int vi93), .val (.ref b94), .val (.int z100_S0)] [(.int vi90), (.int ((vi90.toInt8.toInt32).toInt8.toInt32))]))
        by_cases hc110_130 : ((vi90.toInt8.toInt32).toInt8.toInt32) = vi90
        · refine own_go (fun t_ k => XS.icmpNo X129.here hx rfl (hb hby at_110) rfl (teq hc110_130).2 k) ?_
          show WP p e below _ (T129.setTop (mkF m 113 #[.val (.int p1), .val (.int p2), .val (.int p3), .val (.int p4), .val (.int p5), .val (.int (4 : Int32)), .val (.int vi90), .val (.int vi91), .val (.int vi92), .val (.int vi93), .val (.ref b94), .val (.int z100_S0)] []))
          refine own_go (fun t_ k => XS.iconst X129.here hx rfl (hb hby at_113) k) ?_
          show WP p e below _ (T129.setTop (mkF m 114 #[.val (.int p1), .val (.int p2), .val (.int p3), .val (.int p4), .val (.int p5), .val (.int (4 : Int32)), .val (.int vi90), .val (.int vi91), .val (.int vi92), .val (.int vi93), .val (.ref b94), .val (.int z100_S0)] [(.int (1 : Int32))]))
          refine own_go (fun t_ k => XS.goto X129.here hx rfl (pc0 := 114) (pc' := 118) rfl (hb hby at_114) (by decide) (by decide) k) ?_
          show WP p e below _ (T129.setTop (mkF m 118 #[.val (.int p1), .val (.int p2), .val (.int p3), .val (.int p4), .val (.int p5), .val (.int (4 : Int32)), .val (.int vi90), .val (.int vi91), .val (.int vi92), .val (.int vi93), .val (.ref b94), .val (.int z100_S0)] [(.int (1 : Int32))]))
          exact J110 T129 _ X129 N129 e129 _ (by rw [if_neg hc99_108, if_pos hc110_130])
        · refine own_go (fun t_ k => XS.icmpYes X129.here hx rfl (pc0 := 110) (pc' := 117) rfl (hb hby at_110) rfl (feq hc110_130).2 (by decide) (by decide) k) ?_
          show WP p e below _ (T129.setTop (mkF m 117 #[.val (.int p1), .val (.int p2), .val (.int p3), .val (.int p4), .val (.int p5), .val (.int (4 : Int32)), .val (.int vi90), .val (.int vi91), .val (.int vi92), .val (.int vi93), .val (.ref b94), .val (.int z100_S0)] []))
          refine own_go (fun t_ k => XS.iconst X129.here hx rfl (hb hby at_117) k) ?_
          show WP p e below _ (T129.setTop (mkF m 118 #[.val (.int p1), .val (.int p2), .val (.int p3), .val (.int p4), .val (.int p5), .val (.int (4 : Int32)), .val (.int vi90), .val (.int vi91), .val (.int vi92), .val (.int vi93), .val (.ref b94), .val (.int z100_S0)] [(.int (0 : Int32))]))
          exact J110 T129 _ X129 N129 e129 _ (by rw [if_neg hc99_108, if_neg hc110_130])
    by_cases hc48_99 : vi98 = vi90
    · refine own_go (fun t_ k => XS.icmpNo X97.here hx rfl (hb hby at_48) rfl (teq hc48_99).2 k) ?_
      show WP p e below _ (T97.setTop (mkF m 51 #[.val (.int p1), .val (.int p2), .val (.int p3), .val (.int p4), .val (.int p5), .val (.int (4 : Int32)), .val (.int vi90), .val (.int vi91), .val (.int vi92), .val (.int vi93), .val (.ref b94), .unset] []))
      refine own_go (fun t_ k => XS.iconst X97.here hx rfl (hb hby at_51) k) ?_
      show WP p e below _ (T97.setTop (mkF m 52 #[.val (.int p1), .val (.int p2), .val (.int p3), .val (.int p4), .val (.int p5), .val (.int (4 : Int32)), .val (.int vi90), .val (.int vi91), .val (.int vi92), .val (.int vi93), .val (.ref b94), .unset] [(.int (1 : Int32))]))
      refine own_go (fun t_ k => XS.goto X97.here hx rfl (pc0 := 52) (pc' := 56) rfl (hb hby at_52) (by decide) (by decide) k) ?_
      show WP p e below _ (T97.setTop (mkF m 56 #[.val (.int p1), .val (.int p2), .val (.int p3), .val (.int p4), .val (.int p5), .val (.int (4 : Int32)), .val (.int vi90), .val (.int vi91), .val (.int vi92), .val (.int vi93), .val (.ref b94), .unset] [(.int (1 : Int32))]))
      exact J101 T97 _ X97 N97 e97 _ (by rw [if_pos hc48_99])
    · refine own_go (fun t_ k => XS.icmpYes X97.here hx rfl (pc0 := 48) (pc' := 55) rfl (hb hby at_48) rfl (feq hc48_99).2 (by decide) (by decide) k) ?_
      show WP p e below _ (T97.setTop (mkF m 55 #[.val (.int p1), .val (.int p2), .val (.int p3), .val (.int p4), .val (.int p5), .val (.int (4 : Int32)), .val (.int vi90), .val (.int vi91), .val (.int vi92), .val (.int vi93), .val (.ref b94), .unset] []))
      refine own_go (fun t_ k => XS.iconst X97.here hx rfl (hb hby at_55) k) ?_
      show WP p e below _ (T97.setTop (mkF m 56 #[.val (.int p1), .val (.int p2), .val (.int p3), .val (.int p4), .val (.int p5), .val (.int (4 : Int32)), .val (.int vi90), .val (.int vi91), .val (.int vi92), .val (.int vi93), .val (.ref b94), .unset] [(.int (0 : Int32))]))
      exact J101 T97 _ X97 N97 e97 _ (by rw [if_neg hc48_99])
set_option maxRecDepth 65536 in
set_option maxHeartbeats 40000000 in
theorem comes_1 {Post : Tables → Env → Array Value → State → Outcome → State → Prop} (hpost : ∀ tb e args s v u, (limb_1_1.after args s (.returned v) u = true ∧ limb_1_2.after args s (.returned v) u = true ∧ True) → FrameEnd s (.returned v) u (Jvm.fieldLocs frame_1_writes args s ++ Jvm.arrayLocs frame_1_arrays args s ++ Jvm.staticLocs frame_1_statics s) 16 131200 → Post tb e args s (.returned v) u) :
    ArmFor flags0 classFile x code maxLocals ret World_1 tables_1 room_1 Calls_1 rest_1 Pre_1 Post := by
  intro l hfl _ _ p e ha hc hk s m args below hf hA hF happ hP
  obtain ⟨hcalls, hrest, hpre⟩ := hP
  obtain ⟨-, -, -, hnamed, -, -, -, hat⟩ := (Spec.applies_iff hf).mp happ
  obtain ⟨hg, hn⟩ := and_e (Cond.before_iff.mp (show (Jvm.Cond.and given_1 narrow_1).before args s = true from hpre))
  obtain ⟨g1, g2⟩ := and_e hg
  obtain ⟨g3, g4⟩ := and_e g2
  obtain ⟨g5, g6⟩ := and_e g4
  obtain ⟨g7, g8⟩ := and_e g6
  obtain ⟨g9, g10⟩ := and_e g8
  obtain ⟨w0, w1, w2, w3, w4, rfl⟩ : ∃ w0 w1 w2 w3 w4 : Value, args = #[w0, w1, w2, w3, w4] := by
    have hs : args.size = 5 := by simpa [Cond.value, given_1] using g1
    obtain ⟨L⟩ := args
    match L, hs with
    | [w0, w1, w2, w3, w4], _ => exact ⟨w0, w1, w2, w3, w4, rfl⟩
  have hw := fun d (hd : d ∈ tables_1) => atoms_spec (ws := Jvm.Cond.code x code maxLocals ret :: tables_1) hat d (List.mem_cons_of_mem _ hd)
  have hfit : Fit s := fun {y c} hc i hi => by
    obtain ⟨ha, rfl⟩ := Array.getElem?_eq_some_iff.mp hc
    have q := List.all_eq_true.mp ((Array.all_eq_true_iff_forall_mem.mp hF) _ (Array.getElem_mem ha)) i (List.mem_range.mpr hi)
    simpa [Array.getElem?_eq_getElem hi] using q
  obtain ⟨i0, ei0⟩ := is_v g3
  obtain rfl : w0 = (.int i0) := Option.some.inj ei0
  obtain ⟨i1, ei1⟩ := is_v g5
  obtain rfl : w1 = (.int i1) := Option.some.inj ei1
  obtain ⟨i2, ei2⟩ := is_v g7
  obtain rfl : w2 = (.int i2) := Option.some.inj ei2
  obtain ⟨i3, ei3⟩ := is_v g9
  obtain rfl : w3 = (.int i3) := Option.some.inj ei3
  obtain ⟨i4, ei4⟩ := is_v g10
  obtain rfl : w4 = (.int i4) := Option.some.inj ei4
  obtain ⟨n, o, h1, h2, h3, _, L, rfl, ⟨rfl, N⟩, hq⟩ := rm0 l s _ hw tables_1 i0 i1 i2 i3 i4 s.heap s.heap.size (Nat.le_refl _) p e ha hc hk s m _ below hf ((Spec.applies_iff_loose hf).mp happ).1 ⟨rfl, State.Warmed39.refl s, rfl⟩ trivial
  refine ⟨n, _, h1, h2, h3, hpost _ _ _ _ _ _ ⟨Cond.after_iff.mpr rfl, Cond.after_iff.mpr (eq_i res_at (Term.int_eval (1)) rfl), trivial⟩ ⟨hq.1, hq.2.1, (hq.2.2.sift fun y hy => Or.inr (N y hy)).mono (by decide) (by decide)⟩⟩
theorem main_1_1 : Claimed_1_1 := comes_1 fun _ _ _ _ _ _ h hF => ⟨h.1, hF⟩
theorem main_1_2 : Claimed_1_2 := comes_1 fun _ _ _ _ _ _ h hF => ⟨h.2.1, hF⟩
end Jvm.Pilot.@@N@@
namespace Jvm.Pilot.@@N@@
open Jvm Jvm.ClassFile Sem Op Lib Jvm.Free Jvm.Stand Jvm.Pilot.@@N@@.Jvm.D
/-! MADE BY PROGRAM (witnessworld.py) out of the Statement's table words and the real class files: 9 classes; the members and pool entries that the words name. The judged class is class 1, her method 1. -/
namespace start1
open Jvm.ClassFile
def u (s : String) : CpInfo := .utf8 (stringToUtf16 s)
/-- a pool by its gaps: so many unusable entries, then the entry; so many at the end -/
def gap : Nat → List CpInfo → List CpInfo
  | 0, r => r
  | n + 1, r => .unusable :: gap n r
def poolList (es : List (Nat × CpInfo)) (last : Nat) : List CpInfo := es.foldr (fun e r => gap e.1 (e.2 :: r)) (gap last [])
def pool (es : List (Nat × CpInfo)) (last : Nat) : Array CpInfo := ⟨poolList es last⟩
def fileOf (pool : Array CpInfo) (this : Nat) (attrs : Array Attribute := #[]) (ms : Array MethodInfo := #[]) (fl : Nat := 33) (sup : Nat := 0) (ifs : Array Nat := #[]) (fds : Array FieldInfo := #[]) : ClassFile where
  minorVersion := 0
  majorVersion := 65
  constantPool := pool
  accessFlags := fl
  thisClass := this
  superClass := sup
  interfaces := ifs
  fields := fds
  methods := ms
  attributes := attrs
def plain (name : String) (sup : Option ClassId) : Class where
  name := name
  kind := .ordinary
  loader := none
  accessFlags := 33
  super := sup
  interfaces := #[]
  cf := none
  fields := #[]
  methods := #[]
  instanceTypes := #[]
  staticTypes := #[]
  resolved := #[]
  callSites := []
  init := .initialized
  statics := none
  mirror := none

def pool0 : Array CpInfo := pool [(5, u "<init>"), (0, u "()V"), (1, .class_ 10), (1, u "java/lang/Object")] 113

def k0c0 : Code := { maxStack := 0, maxLocals := 1, code := object_method_1_code, exceptionTable := #[], attributes := #[] }
def k0m0 : Method := { name := "<init>", desc := "()V", sig := { parameters := [], returnType := none }, accessFlags := 1, code := some k0c0 }
/-- java/lang/Object -/
def k0 : Class := { plain "java/lang/Object" none with
  accessFlags := 33
  interfaces := #[]
  cf := some (fileOf pool0 8 #[] #[{ accessFlags := 1, nameIndex := 5, descriptorIndex := 6, attributes := #[] }] 33 0 #[] #[])
  fields := #[]
  methods := #[k0m0]
  instanceTypes := #[]
  staticTypes := #[]
  resolved := Array.replicate 124 none
  statics := none }

def pool1 : Array CpInfo := pool [(2, .class_ 4), (0, .nameAndType 5 6), (0, u "java/lang/Object"), (0, u "<init>"), (0, u "()V"), (0, .class_ 8), (0, u "com/example/vestry/vestry/ByteBlocks"), (0, .methodref 7 3), (0, .methodref 7 11), (0, .nameAndType 12 13), (0, u "append"), (0, u "(B)V"), (0, .methodref 7 15), (0, .nameAndType 16 17), (0, u "at"), (0, u "(J)B"), (0, .long 2), (1, .long 3), (1, .class_ 23), (0, u "com/example/vestry/vestry/ByteBlocksAtPinLaw"), (2, u "law"), (0, u "(IIIII)Z")] 3

def k1m0 : Method := { name := "<init>", desc := "()V", sig := { parameters := [], returnType := none }, accessFlags := 1, code := none }
def k1c1 : Code := { maxStack := 3, maxLocals := 12, code := code, exceptionTable := #[], attributes := #[] }
def k1m1 : Method := { name := "law", desc := "(IIIII)Z", sig := { parameters := [.int, .int, .int, .int, .int], returnType := some .boolean }, accessFlags := 9, code := some k1c1 }
/-- com/example/vestry/vestry/ByteBlocksAtPinLaw -/
def k1 : Class := { plain "com/example/vestry/vestry/ByteBlocksAtPinLaw" (some 0) with
  accessFlags := 49
  interfaces := #[]
  cf := some (fileOf pool1 22 #[] #[{ accessFlags := 1, nameIndex := 5, descriptorIndex := 6, attributes := #[] }, { accessFlags := 9, nameIndex := 26, descriptorIndex := 27, attributes := #[] }] 49 2 #[] #[])
  fields := #[]
  methods := #[k1m0, k1m1]
  instanceTypes := #[]
  staticTypes := #[]
  resolved := Array.replicate 31 none
  statics := none }

def pool2 : Array CpInfo := pool [(1, .class_ 2), (0, u "com/example/vestry/vestry/ByteBlocks"), (0, .methodref 4 5), (0, .class_ 6), (0, .nameAndType 7 8), (0, u "java/lang/Object"), (0, u "<init>"), (0, u "()V"), (0, .class_ 10), (0, u "[B"), (0, .fieldref 1 12), (0, .nameAndType 13 14), (0, u "blocks"), (0, u "[[B"), (0, .fieldref 1 16), (0, .nameAndType 17 18), (0, u "size"), (0, u "J"), (7, .integer 65536), (0, .long 65535), (13, u "BLOCK_BITS"), (0, u "I"), (2, u "BLOCK_SIZE"), (0, u "BLOCK_MASK"), (4, u "append"), (0, u "(B)V"), (1, u "at"), (0, u "(J)B")] 4

def k2c0 : Code := { maxStack := 2, maxLocals := 1, code := prog_3_method_1_code, exceptionTable := #[], attributes := #[] }
def k2m0 : Method := { name := "<init>", desc := "()V", sig := { parameters := [], returnType := none }, accessFlags := 0, code := some k2c0 }
def k2c1 : Code := { maxStack := 5, maxLocals := 3, code := prog_3_method_3_code, exceptionTable := #[], attributes := #[] }
def k2m1 : Method := { name := "append", desc := "(B)V", sig := { parameters := [.byte], returnType := none }, accessFlags := 0, code := some k2c1 }
def k2c2 : Code := { maxStack := 5, maxLocals := 3, code := prog_3_method_4_code, exceptionTable := #[], attributes := #[] }
def k2m2 : Method := { name := "at", desc := "(J)B", sig := { parameters := [.long], returnType := some .byte }, accessFlags := 0, code := some k2c2 }
/-- com/example/vestry/vestry/ByteBlocks -/
def k2 : Class := { plain "com/example/vestry/vestry/ByteBlocks" (some 0) with
  accessFlags := 32
  interfaces := #[]
  cf := some (fileOf pool2 1 #[] #[{ accessFlags := 0, nameIndex := 7, descriptorIndex := 8, attributes := #[] }, { accessFlags := 0, nameIndex := 51, descriptorIndex := 52, attributes := #[] }, { accessFlags := 0, nameIndex := 54, descriptorIndex := 55, attributes := #[] }] 32 4 #[] #[{ accessFlags := 26, nameIndex := 41, descriptorIndex := 42, attributes := #[] }, { accessFlags := 26, nameIndex := 45, descriptorIndex := 42, attributes := #[] }, { accessFlags := 26, nameIndex := 46, descriptorIndex := 42, attributes := #[] }, { accessFlags := 2, nameIndex := 13, descriptorIndex := 14, attributes := #[] }, { accessFlags := 2, nameIndex := 17, descriptorIndex := 18, attributes := #[] }])
  fields := #[{ name := "BLOCK_BITS", type := .int, accessFlags := 26, slot := 0, constantValue := 0 }, { name := "BLOCK_SIZE", type := .int, accessFlags := 26, slot := 1, constantValue := 0 }, { name := "BLOCK_MASK", type := .int, accessFlags := 26, slot := 2, constantValue := 0 }, { name := "blocks", type := (.array (.array .byte)), accessFlags := 2, slot := 0, constantValue := 0 }, { name := "size", type := .long, accessFlags := 2, slot := 1, constantValue := 0 }]
  methods := #[k2m0, k2m1, k2m2]
  instanceTypes := #[(.array (.array .byte)), .long]
  staticTypes := #[.int, .int, .int]
  resolved := Array.replicate 60 none
  statics := none }

def pool3 : Array CpInfo := pool [(1, u "java/lang/Cloneable"), (0, .class_ 1), (0, u "java/lang/Object"), (0, .class_ 3)] 3

/-- java/lang/Cloneable -/
def k3 : Class := { plain "java/lang/Cloneable" (some 0) with
  accessFlags := 1537
  interfaces := #[]
  cf := some (fileOf pool3 2 #[] #[] 1537 4 #[] #[])
  fields := #[]
  methods := #[]
  instanceTypes := #[]
  staticTypes := #[]
  resolved := Array.replicate 8 none
  statics := none }

def pool4 : Array CpInfo := pool [(1, u "java/io/Serializable"), (0, .class_ 1), (0, u "java/lang/Object"), (0, .class_ 3)] 3

/-- java/io/Serializable -/
def k4 : Class := { plain "java/io/Serializable" (some 0) with
  accessFlags := 1537
  interfaces := #[]
  cf := some (fileOf pool4 2 #[] #[] 1537 4 #[] #[])
  fields := #[]
  methods := #[]
  instanceTypes := #[]
  staticTypes := #[]
  resolved := Array.replicate 8 none
  statics := none }

/-- the primitive byte -/
def k5 : Class := { plain "byte" none with kind := .primitive 'B', accessFlags := 0x411 }
/-- [B -/
def k6 : Class := { plain "[B" (some 0) with kind := .array 5 .byte, interfaces := #[3, 4], accessFlags := 1041 }

/-- the primitive int -/
def k7 : Class := { plain "int" none with kind := .primitive 'I', accessFlags := 0x411 }
/-- [I -/
def k8 : Class := { plain "[I" (some 0) with kind := .array 7 .int, interfaces := #[3, 4], accessFlags := 1041 }

/-- [[B -/
def k9 : Class := { plain "[[B" (some 0) with kind := .array 6 (.array .byte), interfaces := #[3, 4], accessFlags := 1041 }
def heap : Heap := #[]
def classes : Array Class := #[k0, k1, k2, k3, k4, k5, k6, k7, k8, k9]
def interned : List (Array UInt16 × Addr) := []
def slotsUsed : Nat := 0
def theMethod : MethodId := ⟨1, 1⟩
def args0 : Array Value := #[.int 5, .int 6, .int 7, .int 1, .int 5]
def aboutOver (below : List Frame) : State where
  vm := { classes := classes, interned := interned.toArray }
  heap := heap
  slotsUsed := slotsUsed
  threads := #[{ frames := .invoking theMethod args0 :: below }]
def below0 : List Frame := [.native { method := ⟨0, 0⟩, args := #[] }]
def about1 : State := aboutOver below0
def p0 : Program := .bare "" "" ""
def e0 : Env := launch0.env 0 0 0
theorem w_frames : about1.frames = Frame.invoking theMethod args0 :: below0 := rfl
set_option maxRecDepth 65536 in
theorem w_args : argsFit about1.vm theMethod args0 = true := by decide +kernel
set_option maxRecDepth 65536 in
theorem w_heap : heapFits about1 = true := by decide +kernel
set_option maxRecDepth 65536 in
theorem w_runnable : about1.curStatus? = some .runnable := by decide +kernel
set_option maxRecDepth 65536 in
theorem w_alone : about1.alone = true := by decide +kernel
set_option maxRecDepth 65536 in
theorem w_named : about1.methodNamed? x = some theMethod := by decide +kernel
set_option maxRecDepth 65536 in
theorem w_hears : about1.hears theMethod below0 = true := by decide +kernel
set_option maxRecDepth 65536 in
theorem w_ripe : about1.ripe theMethod args0 below0 = true := by decide +kernel
theorem w_running : about1.status = .running := rfl
set_option maxRecDepth 65536 in
theorem w_room : about1.hasRoom e0.platform room_1 = true :=
  launch0.hasRoom_least _ room_1 (by decide +kernel) (by decide +kernel) (by decide +kernel) (by decide +kernel) (by decide +kernel) (by decide +kernel)
theorem allAtoms_all (ts : List Jvm.Cond) (a : Array Jvm.Value) (st : Jvm.State) : (allAtoms ts).before a st = ts.all (fun c => c.before a st) := by
  induction ts with
  | nil => rfl
  | cons c t ih =>
    show (Jvm.Cond.and c (allAtoms t)).before a st = _
    rw [Jvm.Cond.before_and, ih, List.all_cons]
def words1 : List Jvm.Cond := Jvm.Cond.code x code maxLocals ret :: tables_1
/-- a 'code' word, met by the world's own term for the bytes: nothing is compared byte by byte -/
theorem code_word {y : MethodName} {bytes : ByteArray} {mx : Nat} {rt : Option FieldType} {a : Array Value} {s : State} {m : MethodId} {meth : Method} {c : Code} (h1 : s.methodNamed? y = some m) (h2 : s.vm.method? m = some meth) (h3 : meth.code = some c) (h4 : c.code = bytes)
    (h5 : (c.maxLocals == mx && c.exceptionTable.isEmpty && decide (c.maxStack ≤ mostOperands) && decide (meth.sig.returnType = rt) && !meth.locks && decide (parseMethodDescriptor y.desc = some meth.sig)) = true) : (Jvm.Cond.code y bytes mx rt).before a s = true := by
  simp only [Bool.and_eq_true, beq_iff_eq, Bool.not_eq_true', decide_eq_true_eq] at h5
  obtain ⟨⟨⟨⟨⟨g1, g2⟩, g3⟩, g4⟩, g5⟩, g6⟩ := h5
  simp [Cond.before, Cond.holds, Cond.value, h1, h2, h3, h4, g1, g2, g3, g4, g5, g6]
def isCode : Jvm.Cond → Bool
  | .code _ _ _ _ => true
  | _ => false
theorem all_split {L : List Jvm.Cond} {P : Jvm.Cond → Bool} (h1 : L.all (fun c => isCode c || P c) = true) (h2 : ∀ c ∈ L.filter isCode, P c = true) : L.all P = true := by
  refine List.all_eq_true.mpr fun c hc => ?_
  have h := List.all_eq_true.mp h1 c hc
  rcases Bool.eq_false_or_eq_true (isCode c) with hi | hi
  · exact h2 c (List.mem_filter.mpr ⟨hc, hi⟩)
  · simpa [hi] using h
set_option maxRecDepth 65536 in
theorem w_c0 : (Jvm.Cond.code x code maxLocals ret).before args0 about1 = true := code_word (m := ⟨1, 1⟩) (meth := k1m1) (c := k1c1) (by decide +kernel) rfl rfl rfl (by decide +kernel)
set_option maxRecDepth 65536 in
theorem w_c1 : (Jvm.Cond.code ({ cls := "com/example/vestry/vestry/ByteBlocks", name := "<init>", desc := "()V" } : Jvm.MethodName) prog_3_method_1_code (1 : Nat) (Option.none : Option Jvm.ClassFile.FieldType)).before args0 about1 = true := code_word (m := ⟨2, 0⟩) (meth := k2m0) (c := k2c0) (by decide +kernel) rfl rfl rfl (by decide +kernel)
set_option maxRecDepth 65536 in
theorem w_c2 : (Jvm.Cond.code ({ cls := "java/lang/Object", name := "<init>", desc := "()V" } : Jvm.MethodName) object_method_1_code (1 : Nat) (Option.none : Option Jvm.ClassFile.FieldType)).before args0 about1 = true := code_word (m := ⟨0, 0⟩) (meth := k0m0) (c := k0c0) (by decide +kernel) rfl rfl rfl (by decide +kernel)
set_option maxRecDepth 65536 in
theorem w_c3 : (Jvm.Cond.code ({ cls := "com/example/vestry/vestry/ByteBlocks", name := "append", desc := "(B)V" } : Jvm.MethodName) prog_3_method_3_code (3 : Nat) (Option.none : Option Jvm.ClassFile.FieldType)).before args0 about1 = true := code_word (m := ⟨2, 1⟩) (meth := k2m1) (c := k2c1) (by decide +kernel) rfl rfl rfl (by decide +kernel)
set_option maxRecDepth 65536 in
theorem w_c4 : (Jvm.Cond.code ({ cls := "com/example/vestry/vestry/ByteBlocks", name := "at", desc := "(J)B" } : Jvm.MethodName) prog_3_method_4_code (3 : Nat) (Option.some Jvm.ClassFile.FieldType.byte)).before args0 about1 = true := code_word (m := ⟨2, 2⟩) (meth := k2m2) (c := k2c2) (by decide +kernel) rfl rfl rfl (by decide +kernel)
def codes1 : List Jvm.Cond := [Jvm.Cond.code x code maxLocals ret, Jvm.Cond.code ({ cls := "com/example/vestry/vestry/ByteBlocks", name := "<init>", desc := "()V" } : Jvm.MethodName) prog_3_method_1_code (1 : Nat) (Option.none : Option Jvm.ClassFile.FieldType), Jvm.Cond.code ({ cls := "java/lang/Object", name := "<init>", desc := "()V" } : Jvm.MethodName) object_method_1_code (1 : Nat) (Option.none : Option Jvm.ClassFile.FieldType), Jvm.Cond.code ({ cls := "com/example/vestry/vestry/ByteBlocks", name := "append", desc := "(B)V" } : Jvm.MethodName) prog_3_method_3_code (3 : Nat) (Option.none : Option Jvm.ClassFile.FieldType), Jvm.Cond.code ({ cls := "com/example/vestry/vestry/ByteBlocks", name := "at", desc := "(J)B" } : Jvm.MethodName) prog_3_method_4_code (3 : Nat) (Option.some Jvm.ClassFile.FieldType.byte)]
set_option maxRecDepth 65536 in
theorem codes_eq : words1.filter isCode = codes1 := rfl
theorem w_codes : ∀ c ∈ words1.filter isCode, c.before args0 about1 = true := by
  rw [codes_eq]
  intro c hc
  simp only [codes1, List.mem_cons, List.not_mem_nil, or_false] at hc
  rcases hc with rfl | rfl | rfl | rfl | rfl
  · exact w_c0
  · exact w_c1
  · exact w_c2
  · exact w_c3
  · exact w_c4
set_option maxRecDepth 65536 in
theorem w_t1 : (words1.take 24).all (fun c => isCode c || c.before args0 about1) = true := by decide +kernel
set_option maxRecDepth 65536 in
theorem w_t2 : (words1.drop 24).all (fun c => isCode c || c.before args0 about1) = true := by decide +kernel
theorem w_tables : (allAtoms (Jvm.Cond.code x code maxLocals ret :: tables_1)).before args0 about1 = true := by
  rw [allAtoms_all]
  show words1.all (fun c => c.before args0 about1) = true
  refine all_split ?_ w_codes
  rw [← List.take_append_drop 24 words1, List.all_append, w_t1, w_t2]
  rfl
set_option maxRecDepth 65536 in
theorem w_case : (Jvm.Cond.and given_1 narrow_1).before args0 about1 = true := by decide +kernel
theorem w_applies : (headSpec (Jvm.Cond.code x code maxLocals ret :: tables_1) room_1).applies x e0.platform about1 = true :=
  (Spec.applies_iff w_frames).mpr ⟨w_running, w_runnable, w_alone, w_named, w_hears, w_ripe, w_room, w_tables⟩
theorem atStart : AtStart classFile x code maxLocals ret World_1 tables_1 room_1 Calls_1 rest_1 Pre_1 launch0 p0 e0 about1 theMethod args0 below0 :=
  ⟨lists_1, trivial, launch0.admits_env _ _ _, launch0.least_env, fairChoices_fair.cas, fairChoices_fair.clock, w_frames, w_args, w_heap, w_applies, trivial, trivial, w_case⟩
end start1
theorem witness_1 : WitnessClaimed_1 := ⟨start1.p0, start1.e0, start1.about1, start1.theMethod, start1.args0, start1.below0, start1.atStart⟩
end Jvm.Pilot.@@N@@
