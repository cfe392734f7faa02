import JvmDerived
import JvmDerived.Pilot.@@N@@Statement
import JvmDerived.Pilot.@@N@@Code
set_option linter.unusedVariables false
set_option linter.unusedSimpArgs false
namespace Jvm.Pilot.@@N@@
open Jvm Jvm.ClassFile Sem Op Lib Jvm.Free Jvm.Stand Jvm.LawKit Jvm.RoadKit Bundle Jvm.Pilot.@@N@@.Jvm.D
/-! The end of a walk, as a goal: from U the run ends, and G holds of the end. -/
def WP (p : Program) (e : Env) (below : List Frame) (G : State → Outcome → Prop) (U : State) : Prop :=
  ∃ s₂ o, Steps p.tables e below U s₂ ∧ s₂.status = .running ∧ Ended s₂ below o ∧ G s₂ o
def GG (Q : Option Value → Heap → List Loc → Prop) (s : State) (k n : Nat) : State → Outcome → Prop :=
  fun t o => ∃ v L, o = .returned v ∧ Q v t.heap L ∧ FrameEnd s o t L k n
theorem own_go {p : Program} {e : Env} {below : List Frame} {G : State → Outcome → Prop} {U V : State} (h : ∀ t, Steps p.tables e below V t → Steps p.tables e below U t) (w : WP p e below G V) : WP p e below G U := by
  obtain ⟨t, o, h1, h2⟩ := w
  exact ⟨t, o, h _ h1, h2⟩
/-- what a body that writes nothing leaves -/
def PQ (h0 : Heap) (n0 : Nat) (w : Value) (v : Option Value) (h : Heap) (L : List Loc) : Prop := v = some w ∧ Fr n0 L ∧ h = h0
/-- what the law leaves -/
def Q0 (n0 : Nat) (v : Option Value) (h : Heap) (L : List Loc) : Prop := v = some (.int 1) ∧ Fr n0 L
section Own
variable {p : Program} {l : Launch} {e : Env} {R : Room} {s : State} {m : MethodId} {args : Array Value} {below : List Frame} {meth : Method} {c : Code} {T : State} {locs : List Loc} {cells slots : Nat}
theorem own_mono (X : Stand p l e R s m args below meth c T locs cells slots) {k n : Nat} (h1 : cells ≤ k) (h2 : slots ≤ n) : Stand p l e R s m args below meth c T locs k n :=
  ⟨X.admits, X.cas, X.clock, X.frames, X.room, X.hears, X.method, X.code, X.here, X.tail, X.warmed, X.limits, X.bytes, X.same.mono h1 h2⟩
theorem own_retI (X : Stand p l e R s m args below meth c T locs cells slots) (hx : p.tables.exec = Jvm.exec) (hnl : meth.locks = false) (hret : meth.sig.returnType = some .int) {pc : Nat} {Ls : Array Slot} {z : Int32} {rest : List Value} (hd : decode c.code pc = .ok (.ireturn, 1)) {Q : Option Value → Heap → List Loc → Prop} {k n : Nat}
    (hq : Q (some (.int z)) T.heap locs) (hc : cells ≤ k) (hs : slots ≤ n) : WP p e below (GG Q s k n) (T.setTop (mkF m pc Ls (.int z :: rest))) := by
  obtain ⟨fs, hr, hrun, hended, hW, hsame⟩ := X.leave (v := some (.int z)) (fun h => by rw [hret] at h; cases h) hnl
  exact ⟨_, _, retOut X hx hret rfl (Or.inl ⟨rfl, Or.inl rfl, z, rfl⟩) hd hr, hrun, hended, _, _, rfl, hq, ⟨_, rfl⟩, hW, hsame.mono hc hs⟩
theorem own_retN (X : Stand p l e R s m args below meth c T locs cells slots) (hx : p.tables.exec = Jvm.exec) (hnl : meth.locks = false) {t : FieldType} (hret : meth.sig.returnType = some t) (ht : t = .boolean ∨ t = .byte ∨ t = .char ∨ t = .short) {pc : Nat} {Ls : Array Slot} {z : Int32} {rest : List Value} (hd : decode c.code pc = .ok (.ireturn, 1)) {Q : Option Value → Heap → List Loc → Prop} {k n : Nat}
    (hq : Q (some (.int (nar t z))) T.heap locs) (hc : cells ≤ k) (hs : slots ≤ n) : WP p e below (GG Q s k n) (T.setTop (mkF m pc Ls (.int z :: rest))) := by
  obtain ⟨fs, hr, hrun, hended, hW, hsame⟩ := X.leave (v := some (.int (nar t z))) (fun h => by rw [hret] at h; cases h) hnl
  exact ⟨_, _, retN X hx hret ht hd hr, hrun, hended, _, _, rfl, hq, ⟨_, rfl⟩, hW, hsame.mono hc hs⟩
theorem own_retZ (X : Stand p l e R s m args below meth c T locs cells slots) (hx : p.tables.exec = Jvm.exec) (hnl : meth.locks = false) (hret : meth.sig.returnType = some .boolean) {pc : Nat} {Ls : Array Slot} {z : Int32} {rest : List Value} (hd : decode c.code pc = .ok (.ireturn, 1)) (hz : z = 0 ∨ z = 1) {Q : Option Value → Heap → List Loc → Prop} {k n : Nat}
    (hq : Q (some (.int z)) T.heap locs) (hc : cells ≤ k) (hs : slots ≤ n) : WP p e below (GG Q s k n) (T.setTop (mkF m pc Ls (.int z :: rest))) := by
  have hb : nar .boolean z = z := by rcases hz with rfl | rfl <;> rfl
  exact own_retN X hx hnl hret (Or.inl rfl) hd (by rw [hb]; exact hq) hc hs
theorem own_retC (X : Stand p l e R s m args below meth c T locs cells slots) (hx : p.tables.exec = Jvm.exec) (hnl : meth.locks = false) (hret : meth.sig.returnType = some .char) {pc : Nat} {Ls : Array Slot} {z : Int32} {rest : List Value} (hd : decode c.code pc = .ok (.ireturn, 1)) {Q : Option Value → Heap → List Loc → Prop} {k n : Nat}
    (hq : Q (some (.int z.toUInt32.toUInt16.toUInt32.toInt32)) T.heap locs) (hc : cells ≤ k) (hs : slots ≤ n) : WP p e below (GG Q s k n) (T.setTop (mkF m pc Ls (.int z :: rest))) :=
  own_retN X hx hnl hret (Or.inr (Or.inr (Or.inl rfl))) hd hq hc hs
theorem own_retB (X : Stand p l e R s m args below meth c T locs cells slots) (hx : p.tables.exec = Jvm.exec) (hnl : meth.locks = false) (hret : meth.sig.returnType = some .byte) {pc : Nat} {Ls : Array Slot} {z : Int32} {rest : List Value} (hd : decode c.code pc = .ok (.ireturn, 1)) {Q : Option Value → Heap → List Loc → Prop} {k n : Nat}
    (hq : Q (some (.int z.toInt8.toInt32)) T.heap locs) (hc : cells ≤ k) (hs : slots ≤ n) : WP p e below (GG Q s k n) (T.setTop (mkF m pc Ls (.int z :: rest))) :=
  own_retN X hx hnl hret (Or.inr (Or.inl rfl)) hd hq hc hs
theorem own_retJ (X : Stand p l e R s m args below meth c T locs cells slots) (hx : p.tables.exec = Jvm.exec) (hnl : meth.locks = false) (hret : meth.sig.returnType = some .long) {pc : Nat} {Ls : Array Slot} {z : Int64} {rest : List Value} (hd : decode c.code pc = .ok (.lreturn, 1)) {Q : Option Value → Heap → List Loc → Prop} {k n : Nat}
    (hq : Q (some (.long z)) T.heap locs) (hc : cells ≤ k) (hs : slots ≤ n) : WP p e below (GG Q s k n) (T.setTop (mkF m pc Ls (.long z :: rest))) := by
  obtain ⟨fs, hr, hrun, hended, hW, hsame⟩ := X.leave (v := some (.long z)) (fun h => by rw [hret] at h; cases h) hnl
  exact ⟨_, _, retOut X hx hret rfl (Or.inr (Or.inl ⟨rfl, rfl, z, rfl⟩)) hd hr, hrun, hended, _, _, rfl, hq, ⟨_, rfl⟩, hW, hsame.mono hc hs⟩
theorem own_retA (X : Stand p l e R s m args below meth c T locs cells slots) (hx : p.tables.exec = Jvm.exec) (hnl : meth.locks = false) {t : FieldType} (hret : meth.sig.returnType = some t) (ht : t.isReference = true) {pc : Nat} {Ls : Array Slot} {w : Value} (hw : w.isRef = true) {rest : List Value} (hd : decode c.code pc = .ok (.areturn, 1)) {Q : Option Value → Heap → List Loc → Prop} {k n : Nat}
    (hq : Q (some w) T.heap locs) (hc : cells ≤ k) (hs : slots ≤ n) : WP p e below (GG Q s k n) (T.setTop (mkF m pc Ls (w :: rest))) := by
  obtain ⟨fs, hr, hrun, hended, hW, hsame⟩ := X.leave (v := some w) (fun h => by rw [hret] at h; cases h) hnl
  have hn : narrow t w = w := by cases t <;> first | rfl | (simp [FieldType.isReference] at ht)
  exact ⟨_, _, retOut X hx hret hn (Or.inr (Or.inr (Or.inr (Or.inr ⟨rfl, ht, hw⟩)))) hd hr, hrun, hended, _, _, rfl, hq, ⟨_, rfl⟩, hW, hsame.mono hc hs⟩
theorem own_ret0 (X : Stand p l e R s m args below meth c T locs cells slots) (hx : p.tables.exec = Jvm.exec) (hnl : meth.locks = false) (hret : meth.sig.returnType = none) {pc : Nat} {Ls : Array Slot} (hd : decode c.code pc = .ok (.return_, 1)) {Q : Option Value → Heap → List Loc → Prop} {k n : Nat}
    (hq : Q none T.heap locs) (hc : cells ≤ k) (hs : slots ≤ n) : WP p e below (GG Q s k n) (T.setTop (mkF m pc Ls [])) := by
  obtain ⟨fs, hr, hrun, hended, hW, hsame⟩ := X.leave (v := none) (fun _ => rfl) hnl
  exact ⟨_, _, X.returnOut hx hret hd hr, hrun, hended, _, _, rfl, hq, ⟨_, rfl⟩, hW, hsame.mono hc hs⟩
end Own

def IL (Z : State) (h : Heap) (a t : Addr) (k : ClassId) (n : Int32) (xs : List Int32) : Prop :=
  Exa Z h a "com/example/prefold/prefold/passes/IntList" ∧ Fld Z h a "com/example/prefold/prefold/passes/IntList" "values" "[I" (.ref t) ∧ Fld Z h a "com/example/prefold/prefold/passes/IntList" "size" "I" (.int n) ∧ Arv Z h t k .int (4 : Int32) (xs.map Value.int) (.int (0 : Int32)) ∧ a ≠ t
theorem own_len (n : Nat) (h : n < 4) : (Int32.ofNat n).toInt = n ∧ (Int32.ofNat n).toNatClampNeg = n := by
  have e : (Int32.ofNat n).toInt = n := Int32.toInt_ofNat_small (by omega)
  refine ⟨e, ?_⟩
  simp only [Int32.toNatClampNeg, e]; omega
theorem own_full (n : Nat) (h : n < 4) : ¬ (Int32.ofNat n = (4 : Int32)) := fun q => by
  have e := (own_len n h).1
  rw [q] at e
  have o : (4 : Int32).toInt = 4 := rfl
  omega
theorem own_inb (n : Nat) (h : n < 4) : ¬ Int32.ofNat n < 0 ∧ Int32.ofNat n < (4 : Int32) := by
  have e := (own_len n h).1
  have o : (4 : Int32).toInt = 4 := rfl
  have o0 : (0 : Int32).toInt = 0 := rfl
  simp only [Int32.lt_iff_toInt_lt]
  omega
theorem own_put (xs : List Int32) (q : Int32) : ((xs.map Value.int) ++ List.replicate 1 (Value.int (0 : Int32))).set xs.length (.int q) = (xs ++ [q]).map Value.int := by
  rw [List.set_append_right _ _ (by simp)]
  simp
theorem own_at (xs : List Int32) (i : Int32) : (xs.map Value.int).getD i.toNatClampNeg (.int (0 : Int32)) = .int (xs.getD i.toNatClampNeg 0) := by
  rw [List.getD_eq_getElem?_getD, List.getD_eq_getElem?_getD, List.getElem?_map]
  cases xs[i.toNatClampNeg]? <;> rfl
theorem own_and3 {p v : Int32} (h : (p &&& (3 : Int32)) = v) : v = 0 ∨ v = 1 ∨ v = 2 ∨ v = 3 := by
  have a1 := c_mask p 3 2 (by decide) (by decide)
  rw [h] at a1
  have o0 : (0 : Int32).toInt = 0 := rfl
  have o1 : (1 : Int32).toInt = 1 := rfl
  have o2 : (2 : Int32).toInt = 2 := rfl
  have o3 : (3 : Int32).toInt = 3 := rfl
  rw [← Int32.toInt_inj, ← Int32.toInt_inj, ← Int32.toInt_inj, ← Int32.toInt_inj]
  omega
theorem own_rem {p v : Int32} (d : Int32) (n : Nat) (hd : d.toInt = n) (h0 : 0 < n) (h : ((p &&& (2147483647 : Int32)) % d) = v) : 0 ≤ v.toInt ∧ v.toInt < n := by
  have a1 := c_mask p 2147483647 31 (by decide) (by decide)
  have a2 := (c_irem (p &&& 2147483647) d n hd).1
  rw [h] at a2
  have m1 := Int.emod_nonneg (p &&& 2147483647).toInt (show (n : Int) ≠ 0 by omega)
  have m2 := Int.emod_lt_of_pos (p &&& 2147483647).toInt (show (0 : Int) < n by omega)
  omega
def Q_rm_i0 (Z : State) (a1 : Addr) (h0 : Heap) (n0 : Nat) (v : Option Value) (h : Heap) (L : List Loc) : Prop := v = none ∧ Fr n0 L ∧ Keep h0 h [a1] ∧ ∃ t k, n0 ≤ t ∧ h0.size ≤ t ∧ IL Z h a1 t k (0 : Int32) []
theorem d1_0 : decode prog_72_method_1_code 0 = .ok (.aload_n 0, 1) := by decide +kernel
theorem d1_1 : decode prog_72_method_1_code 1 = .ok (.invokespecial 1, 3) := by decide +kernel
theorem d1_4 : decode prog_72_method_1_code 4 = .ok (.aload_n 0, 1) := by decide +kernel
theorem d1_5 : decode prog_72_method_1_code 5 = .ok (.iconst 4, 1) := by decide +kernel
theorem d1_6 : decode prog_72_method_1_code 6 = .ok (.newarray .int, 2) := by decide +kernel
theorem d1_8 : decode prog_72_method_1_code 8 = .ok (.putfield 7, 3) := by decide +kernel
theorem d1_11 : decode prog_72_method_1_code 11 = .ok (.return_, 1) := by decide +kernel
theorem pn_0 : plainName "com/example/prefold/prefold/passes/IntList" = true := by first | (simp [plainName, overriddenIn]; done) | decide +kernel
theorem ef_rm_i0 (m : MethodId) (x0 : Addr) : entryFrame m #[(.ref x0)] 1 = mkF m 0 #[.val (.ref x0)] [] := by first | (simp [entryFrame, mkF, argsToLocals, Value.category]; done) | rfl
set_option maxRecDepth 65536 in
set_option maxHeartbeats 40000000 in
theorem rm_i0 (l : Launch) (Z : State) (a0 : Array Value) (hw : ∀ d ∈ tables_1, d.before a0 Z = true) (ws : List Jvm.Cond) (a1 : Addr) (h0 : Heap) (n0 : Nat) (Z0 : n0 ≤ h0.size) (E_a : Exa Z h0 a1 "com/example/prefold/prefold/passes/IntList") (g_a : n0 ≤ a1) (F_v : Fld Z h0 a1 "com/example/prefold/prefold/passes/IntList" "values" "[I" .null) (F_s : Fld Z h0 a1 "com/example/prefold/prefold/passes/IntList" "size" "I" (.int (0 : Int32))) :
    MetFree l (⟨"com/example/prefold/prefold/passes/IntList", "<init>", "()V"⟩ : MethodName) (head1 (Jvm.Cond.code (⟨"com/example/prefold/prefold/passes/IntList", "<init>", "()V"⟩ : MethodName) prog_72_method_1_code 1 none :: ws) ({ frames := 1, cells := 1, slots := 4, locals := 12 } : Room)) (fun a U => a = #[(.ref a1)] ∧ Z.Warmed39 U.vm ∧ U.heap = h0) (fun _ _ _ _ _ => True) (fun _ U o U' => ∃ v L, o = .returned v ∧ (Q_rm_i0 Z a1 h0 n0) v U'.heap L ∧ FrameEnd U o U' L ({ frames := 1, cells := 1, slots := 4, locals := 12 } : Room).cells ({ frames := 1, cells := 1, slots := 4, locals := 12 } : Room).slots) := by
  refine MetFree.of_bodySF (plainFor_of_name pn_0) hisR ?_
  intro p e s m args below meth c s₁ Bd hml0 hP hK
  obtain ⟨rfl, hZ, hh⟩ := hP
  have hx := Bd.exec
  have hby := Bd.bytes
  have hml : c.maxLocals = 1 := hml0
  have hown : s.vm.findClass "com/example/prefold/prefold/passes/IntList" = some m.cls := findClass_of_methodNamed Bd.named
  have hnm := (name_of_methodNamed Bd.named Bd.method).1
  have X0 : Stand p l e ({ frames := 1, cells := 1, slots := 4, locals := 12 } : Room) s m #[(.ref a1)] below meth c s₁ [] 0 0 := Stand.of_body Bd
  have e0 : s₁.heap = h0 := by rw [← hh, Bd.state]; rfl
  have N0 := Fr.nil n0
  show WP p e below (GG (Q_rm_i0 Z a1 h0 n0) s ({ frames := 1, cells := 1, slots := 4, locals := 12 } : Room).cells ({ frames := 1, cells := 1, slots := 4, locals := 12 } : Room).slots) (s₁.setTop (entryFrame m #[(.ref a1)] 1))
  rw [ef_rm_i0 m a1]
  show WP p e below _ (s₁.setTop (mkF m 0 #[.val (.ref a1)] []))
  refine own_go (fun t_ k => XS.aloadN X0.here hx rfl (hb hby d1_0) rfl rfl k) ?_
  show WP p e below _ (s₁.setTop (mkF m 1 #[.val (.ref a1)] [(.ref a1)]))
  obtain ⟨T1, X1, e1, st1⟩ := initO X0 hx hZ hown (hw _ (List.mem_of_getElem? (i := 7) rfl)) (hw _ (List.mem_of_getElem? (i := 8) rfl)) (hw _ (List.mem_of_getElem? (i := 9) rfl)) e0 (g := (mkF m 1 #[.val (.ref a1)] [(.ref a1)])) rfl (by rw [hml]; rfl) rfl (hb hby d1_1) (by decide) (W := 0) (by show 2 * 0 + _ ≤ _; exact Nat.le_of_eq rfl) (by decide)
  refine own_go st1 ?_
  show WP p e below _ (T1.setTop (mkF m 4 #[.val (.ref a1)] []))
  refine own_go (fun t_ k => XS.aloadN X1.here hx rfl (hb hby d1_4) rfl rfl k) ?_
  show WP p e below _ (T1.setTop (mkF m 5 #[.val (.ref a1)] [(.ref a1)]))
  refine own_go (fun t_ k => XS.iconst X1.here hx rfl (hb hby d1_5) k) ?_
  show WP p e below _ (T1.setTop (mkF m 6 #[.val (.ref a1)] [(.int (4 : Int32)), (.ref a1)]))
  obtain ⟨T2, h2, k2, X2, e2, E2, A2, st2⟩ := newP X1 hx hZ (hw _ (List.mem_of_getElem? (i := 10) rfl)) e1 (g := (mkF m 6 #[.val (.ref a1)] [(.int (4 : Int32)), (.ref a1)])) rfl (hb hby d1_6) rfl (by decide) (cap := 4) (by decide) (by decide) (by decide) (by decide)
  obtain ⟨b2, g2⟩ : ∃ z, z = Array.size h0 := ⟨_, rfl⟩
  rw [← g2] at A2 st2
  refine own_go st2 ?_
  have g_b2 : n0 ≤ b2 := Nat.le_trans (Nat.le_trans Z0 (Keep.refl h0 [a1]).1) (Nat.le_of_eq g2.symm)
  have sz_b2 : h0.size ≤ b2 := Nat.le_trans (Keep.refl h0 [a1]).1 (Nat.le_of_eq g2.symm)
  have ne_a1_b2 : a1 ≠ b2 := Nat.ne_of_lt (Nat.lt_of_lt_of_le E_a.lt (Nat.le_of_eq g2.symm))
  have K2 : Keep h0 h2 [a1] := (Keep.refl h0 [a1]).ext E2
  have V2 : Arv Z h2 b2 k2 .int (4 : Int32) [(.int (0 : Int32)), (.int (0 : Int32)), (.int (0 : Int32)), (.int (0 : Int32))] (.int (0 : Int32)) := (Arv.new A2 (by decide)).pad (pad_rep [] (.int (0 : Int32)) 4)
  show WP p e below _ (T2.setTop (mkF m 8 #[.val (.ref a1)] [(.ref b2), (.ref a1)]))
  obtain ⟨T3, h3, X3, e3, W3, st3⟩ := putF X2 hx hZ hown (host := "") (Or.inl (hw _ (List.mem_of_getElem? (i := 11) rfl))) Via.refl e2 (F_v.ext E2) (E_a.ext E2) (Or.inl (hw _ (List.mem_of_getElem? (i := 12) rfl))) (hw _ (List.mem_of_getElem? (i := 2) rfl)) (ty := (.array .int)) (by decide) rfl rfl (g := (mkF m 8 #[.val (.ref a1)] [(.ref b2), (.ref a1)])) rfl rfl (hb hby d1_8)
  refine own_go st3 ?_
  have Fw3 := (F_v.ext E2).same W3
  have N3 := Fr.snoc X3 N0 g_a
  have K3 : Keep h0 h3 [a1] := K2.wr W3 (Or.inl (List.mem_of_getElem? (i := 0) rfl))
  show WP p e below _ (T3.setTop (mkF m 11 #[.val (.ref a1)] []))
  exact own_ret0 X3 hx Bd.notSynchronized Bd.returns (hb hby d1_11) (by rw [e3]; exact ⟨rfl, N3, K3, b2, k2, g_b2, sz_b2, ((E_a.ext E2).wr W3), Fw3, ((F_s.ext E2).other W3 (Or.inr (slot_ne (Or.inl (hw _ (List.mem_of_getElem? (i := 19) rfl))) (Or.inl (hw _ (List.mem_of_getElem? (i := 12) rfl))) (by decide) (t := .int) (t' := (.array .int)) (by decide) (by decide)))), (Arv.pad (V2.other W3 (Ne.symm ne_a1_b2)) (by intro i; exact (pad_rep [] (.int (0 : Int32)) 4 i).symm)), ne_a1_b2⟩) (by decide) (by decide)
def Q_rm_add (Z : State) (a1 : Addr) (p2 : Int32) (t : Addr) (k : ClassId) (nn : Int32) (xs : List Int32) (h0 : Heap) (n0 : Nat) (v : Option Value) (h : Heap) (L : List Loc) : Prop := v = none ∧ Fr n0 L ∧ Keep h0 h [a1, t] ∧ IL Z h a1 t k (nn + 1) (xs ++ [p2])
theorem d8_0 : decode prog_72_method_4_code 0 = .ok (.aload_n 0, 1) := by decide +kernel
theorem d8_1 : decode prog_72_method_4_code 1 = .ok (.getfield 13, 3) := by decide +kernel
theorem d8_4 : decode prog_72_method_4_code 4 = .ok (.aload_n 0, 1) := by decide +kernel
theorem d8_5 : decode prog_72_method_4_code 5 = .ok (.getfield 7, 3) := by decide +kernel
theorem d8_8 : decode prog_72_method_4_code 8 = .ok (.arraylength, 1) := by decide +kernel
theorem d8_9 : decode prog_72_method_4_code 9 = .ok (.if_icmp .ne 20, 3) := by decide +kernel
theorem d8_29 : decode prog_72_method_4_code 29 = .ok (.aload_n 0, 1) := by decide +kernel
theorem d8_30 : decode prog_72_method_4_code 30 = .ok (.getfield 7, 3) := by decide +kernel
theorem d8_33 : decode prog_72_method_4_code 33 = .ok (.aload_n 0, 1) := by decide +kernel
theorem d8_34 : decode prog_72_method_4_code 34 = .ok (.dup, 1) := by decide +kernel
theorem d8_35 : decode prog_72_method_4_code 35 = .ok (.getfield 13, 3) := by decide +kernel
theorem d8_38 : decode prog_72_method_4_code 38 = .ok (.dup_x1, 1) := by decide +kernel
theorem d8_39 : decode prog_72_method_4_code 39 = .ok (.iconst 1, 1) := by decide +kernel
theorem d8_40 : decode prog_72_method_4_code 40 = .ok (.iadd, 1) := by decide +kernel
theorem d8_41 : decode prog_72_method_4_code 41 = .ok (.putfield 13, 3) := by decide +kernel
theorem d8_44 : decode prog_72_method_4_code 44 = .ok (.iload_n 1, 1) := by decide +kernel
theorem d8_45 : decode prog_72_method_4_code 45 = .ok (.iastore, 1) := by decide +kernel
theorem d8_46 : decode prog_72_method_4_code 46 = .ok (.return_, 1) := by decide +kernel
theorem ef_rm_add (m : MethodId) (x0 : Addr) (x1 : Int32) : entryFrame m #[(.ref x0), (.int x1)] 2 = mkF m 0 #[.val (.ref x0), .val (.int x1)] [] := by first | (simp [entryFrame, mkF, argsToLocals, Value.category]; done) | rfl
set_option maxRecDepth 65536 in
set_option maxHeartbeats 40000000 in
theorem rm_add (l : Launch) (Z : State) (a0 : Array Value) (hw : ∀ d ∈ tables_1, d.before a0 Z = true) (ws : List Jvm.Cond) (a1 : Addr) (p2 : Int32) (t : Addr) (k : ClassId) (nn : Int32) (xs : List Int32) (h0 : Heap) (n0 : Nat) (G : IL Z h0 a1 t k nn xs) (g_a : n0 ≤ a1) (g_t : n0 ≤ t) (hl : xs.length < 4) (hn : nn = Int32.ofNat xs.length) :
    MetFree l (⟨"com/example/prefold/prefold/passes/IntList", "add", "(I)V"⟩ : MethodName) (head1 (Jvm.Cond.code (⟨"com/example/prefold/prefold/passes/IntList", "add", "(I)V"⟩ : MethodName) prog_72_method_4_code 2 none :: ws) ({ frames := 0, cells := 0, slots := 0, locals := 0 } : Room)) (fun a U => a = #[(.ref a1), (.int p2)] ∧ Z.Warmed39 U.vm ∧ U.heap = h0) (fun _ _ _ _ _ => True) (fun _ U o U' => ∃ v L, o = .returned v ∧ (Q_rm_add Z a1 p2 t k nn xs h0 n0) v U'.heap L ∧ FrameEnd U o U' L ({ frames := 0, cells := 0, slots := 0, locals := 0 } : Room).cells ({ frames := 0, cells := 0, slots := 0, locals := 0 } : Room).slots) := by
  refine MetFree.of_bodySF (plainFor_of_name pn_0) hisR ?_
  intro p e s m args below meth c s₁ Bd hml0 hP hK
  obtain ⟨rfl, hZ, hh⟩ := hP
  have hx := Bd.exec
  have hby := Bd.bytes
  have hml : c.maxLocals = 2 := hml0
  have hown : s.vm.findClass "com/example/prefold/prefold/passes/IntList" = some m.cls := findClass_of_methodNamed Bd.named
  have hnm := (name_of_methodNamed Bd.named Bd.method).1
  have X0 : Stand p l e ({ frames := 0, cells := 0, slots := 0, locals := 0 } : Room) s m #[(.ref a1), (.int p2)] below meth c s₁ [] 0 0 := Stand.of_body Bd
  have e0 : s₁.heap = h0 := by rw [← hh, Bd.state]; rfl
  have N0 := Fr.nil n0
  show WP p e below (GG (Q_rm_add Z a1 p2 t k nn xs h0 n0) s ({ frames := 0, cells := 0, slots := 0, locals := 0 } : Room).cells ({ frames := 0, cells := 0, slots := 0, locals := 0 } : Room).slots) (s₁.setTop (entryFrame m #[(.ref a1), (.int p2)] 2))
  rw [ef_rm_add m a1 p2]
  obtain ⟨E_a, F_v, F_s, V_t, ne_t⟩ := G
  subst hn
  have V_p := V_t.pad (pad_rep _ (Value.int (0 : Int32)) 1)
  show WP p e below _ (s₁.setTop (mkF m 0 #[.val (.ref a1), .val (.int p2)] []))
  refine own_go (fun t_ k => XS.aloadN X0.here hx rfl (hb hby d8_0) rfl rfl k) ?_
  show WP p e below _ (s₁.setTop (mkF m 1 #[.val (.ref a1), .val (.int p2)] [(.ref a1)]))
  obtain ⟨T1, X1, e1, st1⟩ := getF X0 hx hZ hown (host := "") (Or.inl (hw _ (List.mem_of_getElem? (i := 18) rfl))) Via.refl e0 F_s (g := (mkF m 1 #[.val (.ref a1), .val (.int p2)] [(.ref a1)])) rfl rfl (hb hby d8_1)
  refine own_go st1 ?_
  show WP p e below _ (T1.setTop (mkF m 4 #[.val (.ref a1), .val (.int p2)] [(.int (Int32.ofNat xs.length))]))
  refine own_go (fun t_ k => XS.aloadN X1.here hx rfl (hb hby d8_4) rfl rfl k) ?_
  show WP p e below _ (T1.setTop (mkF m 5 #[.val (.ref a1), .val (.int p2)] [(.ref a1), (.int (Int32.ofNat xs.length))]))
  obtain ⟨T2, X2, e2, st2⟩ := getF X1 hx hZ hown (host := "") (Or.inl (hw _ (List.mem_of_getElem? (i := 11) rfl))) Via.refl e1 F_v (g := (mkF m 5 #[.val (.ref a1), .val (.int p2)] [(.ref a1), (.int (Int32.ofNat xs.length))])) rfl rfl (hb hby d8_5)
  refine own_go st2 ?_
  show WP p e below _ (T2.setTop (mkF m 8 #[.val (.ref a1), .val (.int p2)] [(.ref t), (.int (Int32.ofNat xs.length))]))
  obtain ⟨cl3, Ar3, -, S3, M3, -, -⟩ := id (V_p)
  refine own_go (fun t_ k => X2.arraylength hx (by rw [e2]; exact Ar3.1) (State.isArrayOf_alike hZ.alike Ar3.2.1) (g := (mkF m 8 #[.val (.ref a1), .val (.int p2)] [(.ref t), (.int (Int32.ofNat xs.length))])) rfl rfl (hb hby d8_8) _ (by rw [len_of S3 M3]; exact k)) ?_
  show WP p e below _ (T2.setTop (mkF m 9 #[.val (.ref a1), .val (.int p2)] [(.int (4 : Int32)), (.int (Int32.ofNat xs.length))]))
  have hc9_4 : ¬ ((Int32.ofNat xs.length) = (4 : Int32)) := own_full _ hl
  refine own_go (fun t_ k => XS.icmpYes X2.here hx rfl (pc0 := 9) (pc' := 29) rfl (hb hby d8_9) rfl (feq hc9_4).2 (by decide) (by decide) k) ?_
  show WP p e below _ (T2.setTop (mkF m 29 #[.val (.ref a1), .val (.int p2)] []))
  refine own_go (fun t_ k => XS.aloadN X2.here hx rfl (hb hby d8_29) rfl rfl k) ?_
  show WP p e below _ (T2.setTop (mkF m 30 #[.val (.ref a1), .val (.int p2)] [(.ref a1)]))
  obtain ⟨T5, X5, e5, st5⟩ := getF X2 hx hZ hown (host := "") (Or.inl (hw _ (List.mem_of_getElem? (i := 11) rfl))) Via.refl e2 F_v (g := (mkF m 30 #[.val (.ref a1), .val (.int p2)] [(.ref a1)])) rfl rfl (hb hby d8_30)
  refine own_go st5 ?_
  show WP p e below _ (T5.setTop (mkF m 33 #[.val (.ref a1), .val (.int p2)] [(.ref t)]))
  refine own_go (fun t_ k => XS.aloadN X5.here hx rfl (hb hby d8_33) rfl rfl k) ?_
  show WP p e below _ (T5.setTop (mkF m 34 #[.val (.ref a1), .val (.int p2)] [(.ref a1), (.ref t)]))
  refine own_go (fun t_ k => XS.dup X5.here hx rfl (hb hby d8_34) rfl rfl k) ?_
  show WP p e below _ (T5.setTop (mkF m 35 #[.val (.ref a1), .val (.int p2)] [(.ref a1), (.ref a1), (.ref t)]))
  obtain ⟨T6, X6, e6, st6⟩ := getF X5 hx hZ hown (host := "") (Or.inl (hw _ (List.mem_of_getElem? (i := 18) rfl))) Via.refl e5 F_s (g := (mkF m 35 #[.val (.ref a1), .val (.int p2)] [(.ref a1), (.ref a1), (.ref t)])) rfl rfl (hb hby d8_35)
  refine own_go st6 ?_
  show WP p e below _ (T6.setTop (mkF m 38 #[.val (.ref a1), .val (.int p2)] [(.int (Int32.ofNat xs.length)), (.ref a1), (.ref t)]))
  refine own_go (fun t_ k => XS.dupX1 X6.here hx rfl (hb hby d8_38) rfl rfl rfl k) ?_
  show WP p e below _ (T6.setTop (mkF m 39 #[.val (.ref a1), .val (.int p2)] [(.int (Int32.ofNat xs.length)), (.ref a1), (.int (Int32.ofNat xs.length)), (.ref t)]))
  refine own_go (fun t_ k => XS.iconst X6.here hx rfl (hb hby d8_39) k) ?_
  show WP p e below _ (T6.setTop (mkF m 40 #[.val (.ref a1), .val (.int p2)] [(.int (1 : Int32)), (.int (Int32.ofNat xs.length)), (.ref a1), (.int (Int32.ofNat xs.length)), (.ref t)]))
  refine own_go (fun t_ k => XS.iadd X6.here hx rfl (hb hby d8_40) rfl k) ?_
  show WP p e below _ (T6.setTop (mkF m 41 #[.val (.ref a1), .val (.int p2)] [(.int ((Int32.ofNat xs.length) + (1 : Int32))), (.ref a1), (.int (Int32.ofNat xs.length)), (.ref t)]))
  obtain ⟨T7, h7, X7, e7, W7, st7⟩ := putF X6 hx hZ hown (host := "") (Or.inl (hw _ (List.mem_of_getElem? (i := 18) rfl))) Via.refl e6 F_s E_a (Or.inl (hw _ (List.mem_of_getElem? (i := 19) rfl))) (hw _ (List.mem_of_getElem? (i := 2) rfl)) (ty := .int) (by decide) rfl rfl (g := (mkF m 41 #[.val (.ref a1), .val (.int p2)] [(.int ((Int32.ofNat xs.length) + (1 : Int32))), (.ref a1), (.int (Int32.ofNat xs.length)), (.ref t)])) rfl rfl (hb hby d8_41)
  refine own_go st7 ?_
  have Fw7 := F_s.same W7
  have N7 := Fr.snoc X7 N0 g_a
  have K7 : Keep h0 h7 [a1, t] := (Keep.refl h0 [a1, t]).wr W7 (Or.inl (List.mem_of_getElem? (i := 0) rfl))
  show WP p e below _ (T7.setTop (mkF m 44 #[.val (.ref a1), .val (.int p2)] [(.int (Int32.ofNat xs.length)), (.ref t)]))
  refine own_go (fun t_ k => XS.iloadN X7.here hx rfl (hb hby d8_44) rfl k) ?_
  show WP p e below _ (T7.setTop (mkF m 45 #[.val (.ref a1), .val (.int p2)] [(.int p2), (.int (Int32.ofNat xs.length)), (.ref t)]))
  obtain ⟨cl8, Ar8, q8, S8, M8, H8, G8⟩ := id ((V_p.other W7 (Ne.symm ne_t)))
  have hin8 : ¬ ((Int32.ofNat xs.length) < 0 ∨ cl8.slots.size ≤ ((Int32.ofNat xs.length)).toNatClampNeg) := inb_of S8 (own_inb _ hl)
  obtain ⟨T9, h9, X9, e9, W9, st9⟩ := stI X7 hx hZ e7 Ar8 (j := (Int32.ofNat xs.length)) hin8 (g := (mkF m 45 #[.val (.ref a1), .val (.int p2)] [(.int p2), (.int (Int32.ofNat xs.length)), (.ref t)])) rfl rfl (hb hby d8_45)
  refine own_go st9 ?_
  have V9 := Arv.set Ar8 q8 S8 M8 H8 G8 rfl W9 xs.length (own_len _ hl).2 (by simp)
  have N9 := Fr.snoc X9 N7 g_t
  have K9 : Keep h0 h9 [a1, t] := K7.wr W9 (Or.inl (List.mem_of_getElem? (i := 1) rfl))
  show WP p e below _ (T9.setTop (mkF m 46 #[.val (.ref a1), .val (.int p2)] []))
  exact own_ret0 X9 hx Bd.notSynchronized Bd.returns (hb hby d8_46) (by rw [e9]; exact ⟨rfl, N9, K9, ((E_a.wr W7).wr W9), ((F_v.other W7 (Or.inr (slot_ne (Or.inl (hw _ (List.mem_of_getElem? (i := 12) rfl))) (Or.inl (hw _ (List.mem_of_getElem? (i := 19) rfl))) (by decide) (t := (.array .int)) (t' := .int) (by decide) (by decide)))).other W9 (Or.inl ne_t)), (Fw7.other W9 (Or.inl ne_t)), (own_put xs p2 ▸ V9), ne_t⟩) (by decide) (by decide)
theorem d5_0 : decode jdk_41_method_11_code 0 = .ok (.iload_n 0, 1) := by decide +kernel
theorem d5_1 : decode jdk_41_method_11_code 1 = .ok (.ifCond .lt 8, 3) := by decide +kernel
theorem d5_4 : decode jdk_41_method_11_code 4 = .ok (.iload_n 0, 1) := by decide +kernel
theorem d5_5 : decode jdk_41_method_11_code 5 = .ok (.iload_n 1, 1) := by decide +kernel
theorem d5_6 : decode jdk_41_method_11_code 6 = .ok (.if_icmp .lt 10, 3) := by decide +kernel
theorem d5_16 : decode jdk_41_method_11_code 16 = .ok (.iload_n 0, 1) := by decide +kernel
theorem d5_17 : decode jdk_41_method_11_code 17 = .ok (.ireturn, 1) := by decide +kernel
theorem pn_1 : plainName "jdk/internal/util/Preconditions" = true := by first | (simp [plainName, overriddenIn]; done) | decide +kernel
theorem ef_rm_chk2 (m : MethodId) (x0 : Int32) (x1 : Int32) : entryFrame m #[(.int x0), (.int x1), .null] 3 = mkF m 0 #[.val (.int x0), .val (.int x1), .val .null] [] := by first | (simp [entryFrame, mkF, argsToLocals, Value.category]; done) | rfl
set_option maxRecDepth 65536 in
set_option maxHeartbeats 40000000 in
theorem rm_chk2 (l : Launch) (Z : State) (a0 : Array Value) (hw : ∀ d ∈ tables_1, d.before a0 Z = true) (ws : List Jvm.Cond) (p1 : Int32) (p2 : Int32) (h0 : Heap) (n0 : Nat) (c0 : ¬ (p1 < (0 : Int32))) (c1 : p1 < p2) :
    MetFree l (⟨"jdk/internal/util/Preconditions", "checkIndex", "(IILjava/util/function/BiFunction;)I"⟩ : MethodName) (head1 (Jvm.Cond.code (⟨"jdk/internal/util/Preconditions", "checkIndex", "(IILjava/util/function/BiFunction;)I"⟩ : MethodName) jdk_41_method_11_code 3 (some .int) :: ws) ({ frames := 0, cells := 0, slots := 0, locals := 0 } : Room)) (fun a U => a = #[(.int p1), (.int p2), .null] ∧ Z.Warmed39 U.vm ∧ U.heap = h0) (fun _ _ _ _ _ => True) (fun _ U o U' => ∃ v L, o = .returned v ∧ (PQ h0 n0 (.int p1)) v U'.heap L ∧ FrameEnd U o U' L ({ frames := 0, cells := 0, slots := 0, locals := 0 } : Room).cells ({ frames := 0, cells := 0, slots := 0, locals := 0 } : Room).slots) := by
  refine MetFree.of_bodySF (plainFor_of_name pn_1) hisR ?_
  intro p e s m args below meth c s₁ Bd hml0 hP hK
  obtain ⟨rfl, hZ, hh⟩ := hP
  have hx := Bd.exec
  have hby := Bd.bytes
  have hml : c.maxLocals = 3 := hml0
  have hown : s.vm.findClass "jdk/internal/util/Preconditions" = some m.cls := findClass_of_methodNamed Bd.named
  have hnm := (name_of_methodNamed Bd.named Bd.method).1
  have X0 : Stand p l e ({ frames := 0, cells := 0, slots := 0, locals := 0 } : Room) s m #[(.int p1), (.int p2), .null] below meth c s₁ [] 0 0 := Stand.of_body Bd
  have e0 : s₁.heap = h0 := by rw [← hh, Bd.state]; rfl
  have N0 := Fr.nil n0
  show WP p e below (GG (PQ h0 n0 (.int p1)) s ({ frames := 0, cells := 0, slots := 0, locals := 0 } : Room).cells ({ frames := 0, cells := 0, slots := 0, locals := 0 } : Room).slots) (s₁.setTop (entryFrame m #[(.int p1), (.int p2), .null] 3))
  rw [ef_rm_chk2 m p1 p2]
  show WP p e below _ (s₁.setTop (mkF m 0 #[.val (.int p1), .val (.int p2), .val .null] []))
  refine own_go (fun t_ k => XS.iloadN X0.here hx rfl (hb hby d5_0) rfl k) ?_
  show WP p e below _ (s₁.setTop (mkF m 1 #[.val (.int p1), .val (.int p2), .val .null] [(.int p1)]))
  have hc1_1 : ¬ (p1 < (0 : Int32)) := c0
  refine own_go (fun t_ k => XS.ifNo X0.here hx rfl (hb hby d5_1) rfl ((if0 _ _).trans (flt hc1_1).1) k) ?_
  show WP p e below _ (s₁.setTop (mkF m 4 #[.val (.int p1), .val (.int p2), .val .null] []))
  refine own_go (fun t_ k => XS.iloadN X0.here hx rfl (hb hby d5_4) rfl k) ?_
  show WP p e below _ (s₁.setTop (mkF m 5 #[.val (.int p1), .val (.int p2), .val .null] [(.int p1)]))
  refine own_go (fun t_ k => XS.iloadN X0.here hx rfl (hb hby d5_5) rfl k) ?_
  show WP p e below _ (s₁.setTop (mkF m 6 #[.val (.int p1), .val (.int p2), .val .null] [(.int p2), (.int p1)]))
  have hc6_2 : (p1 < p2) := c1
  refine own_go (fun t_ k => XS.icmpYes X0.here hx rfl (pc0 := 6) (pc' := 16) rfl (hb hby d5_6) rfl (tlt hc6_2).1 (by decide) (by decide) k) ?_
  show WP p e below _ (s₁.setTop (mkF m 16 #[.val (.int p1), .val (.int p2), .val .null] []))
  refine own_go (fun t_ k => XS.iloadN X0.here hx rfl (hb hby d5_16) rfl k) ?_
  show WP p e below _ (s₁.setTop (mkF m 17 #[.val (.int p1), .val (.int p2), .val .null] [(.int p1)]))
  exact own_retI X0 hx Bd.notSynchronized Bd.returns (hb hby d5_17) (show PQ h0 n0 (.int p1) _ _ _ from ⟨rfl, N0, e0⟩) (by decide) (by decide)
theorem pd_0 : parseMethodDescriptor "(IILjava/util/function/BiFunction;)I" = some ⟨[.int, .int, (.object "java/util/function/BiFunction")], some .int⟩ := by decide +kernel
theorem d4_0 : decode jdk_31_method_17_code 0 = .ok (.iload_n 0, 1) := by decide +kernel
theorem d4_1 : decode jdk_31_method_17_code 1 = .ok (.iload_n 1, 1) := by decide +kernel
theorem d4_2 : decode jdk_31_method_17_code 2 = .ok (.aconst_null, 1) := by decide +kernel
theorem d4_3 : decode jdk_31_method_17_code 3 = .ok (.invokestatic 105, 3) := by decide +kernel
theorem d4_6 : decode jdk_31_method_17_code 6 = .ok (.ireturn, 1) := by decide +kernel
theorem pn_2 : plainName "java/util/Objects" = true := by first | (simp [plainName, overriddenIn]; done) | decide +kernel
theorem ef_rm_chk (m : MethodId) (x0 : Int32) (x1 : Int32) : entryFrame m #[(.int x0), (.int x1)] 2 = mkF m 0 #[.val (.int x0), .val (.int x1)] [] := by first | (simp [entryFrame, mkF, argsToLocals, Value.category]; done) | rfl
set_option maxRecDepth 65536 in
set_option maxHeartbeats 40000000 in
theorem rm_chk (l : Launch) (Z : State) (a0 : Array Value) (hw : ∀ d ∈ tables_1, d.before a0 Z = true) (ws : List Jvm.Cond) (p1 : Int32) (p2 : Int32) (h0 : Heap) (n0 : Nat) (c0 : ¬ (p1 < (0 : Int32))) (c1 : p1 < p2) :
    MetFree l (⟨"java/util/Objects", "checkIndex", "(II)I"⟩ : MethodName) (head1 (Jvm.Cond.code (⟨"java/util/Objects", "checkIndex", "(II)I"⟩ : MethodName) jdk_31_method_17_code 2 (some .int) :: ws) ({ frames := 1, cells := 0, slots := 0, locals := 14 } : Room)) (fun a U => a = #[(.int p1), (.int p2)] ∧ Z.Warmed39 U.vm ∧ U.heap = h0) (fun _ _ _ _ _ => True) (fun _ U o U' => ∃ v L, o = .returned v ∧ (PQ h0 n0 (.int p1)) v U'.heap L ∧ FrameEnd U o U' L ({ frames := 1, cells := 0, slots := 0, locals := 14 } : Room).cells ({ frames := 1, cells := 0, slots := 0, locals := 14 } : Room).slots) := by
  refine MetFree.of_bodySF (plainFor_of_name pn_2) hisR ?_
  intro p e s m args below meth c s₁ Bd hml0 hP hK
  obtain ⟨rfl, hZ, hh⟩ := hP
  have hx := Bd.exec
  have hby := Bd.bytes
  have hml : c.maxLocals = 2 := hml0
  have hown : s.vm.findClass "java/util/Objects" = some m.cls := findClass_of_methodNamed Bd.named
  have hnm := (name_of_methodNamed Bd.named Bd.method).1
  have X0 : Stand p l e ({ frames := 1, cells := 0, slots := 0, locals := 14 } : Room) s m #[(.int p1), (.int p2)] below meth c s₁ [] 0 0 := Stand.of_body Bd
  have e0 : s₁.heap = h0 := by rw [← hh, Bd.state]; rfl
  have N0 := Fr.nil n0
  show WP p e below (GG (PQ h0 n0 (.int p1)) s ({ frames := 1, cells := 0, slots := 0, locals := 14 } : Room).cells ({ frames := 1, cells := 0, slots := 0, locals := 14 } : Room).slots) (s₁.setTop (entryFrame m #[(.int p1), (.int p2)] 2))
  rw [ef_rm_chk m p1 p2]
  show WP p e below _ (s₁.setTop (mkF m 0 #[.val (.int p1), .val (.int p2)] []))
  refine own_go (fun t_ k => XS.iloadN X0.here hx rfl (hb hby d4_0) rfl k) ?_
  show WP p e below _ (s₁.setTop (mkF m 1 #[.val (.int p1), .val (.int p2)] [(.int p1)]))
  refine own_go (fun t_ k => XS.iloadN X0.here hx rfl (hb hby d4_1) rfl k) ?_
  show WP p e below _ (s₁.setTop (mkF m 2 #[.val (.int p1), .val (.int p2)] [(.int p2), (.int p1)]))
  refine own_go (fun t_ k => XS.aconstNull X0.here hx rfl (hb hby d4_2) k) ?_
  show WP p e below _ (s₁.setTop (mkF m 3 #[.val (.int p1), .val (.int p2)] [.null, (.int p2), (.int p1)]))
  obtain ⟨_, _, ⟨T1, L1, k1, n1⟩, -, X1, ⟨Lc1, hQ1, l1, y1, z1⟩, st1⟩ := Jvm.LawKit.callS X0 hx (y := (⟨"jdk/internal/util/Preconditions", "checkIndex", "(IILjava/util/function/BiFunction;)I"⟩ : MethodName)) hown (mvT hZ (hw _ (List.mem_of_getElem? (i := 24) rfl))) (mvT hZ (hw _ (List.mem_of_getElem? (i := 25) rfl))) (mvT hZ (hw _ (List.mem_of_getElem? (i := 26) rfl))) (mvT hZ (hw _ (List.mem_of_getElem? (i := 27) rfl))) (by decide) (backOf (W := 0) (rm_chk2 l Z a0 hw [] p1 p2 h0 n0 c0 c1) hZ (hw _ (List.mem_of_getElem? (i := 27) rfl)) (hw _ (List.mem_of_getElem? (i := 26) rfl)) (by decide) (by decide)) (g := (mkF m 3 #[.val (.int p1), .val (.int p2)] [.null, (.int p2), (.int p1)])) rfl (by rw [hml]; rfl) (argsL := [(.int p1), (.int p2), .null]) (rest := []) (lenOf pd_0 rfl) rfl (by show 2 * 0 + _ ≤ _; exact Nat.le_of_eq rfl) (hb hby d4_3) (fun _ _ => ⟨rfl, e0, (by decide : 0 + 0 ≤ _), (by decide : 0 + 0 ≤ _)⟩)
  dsimp only [Pt.U, Pt.locs, Pt.cells, Pt.slots] at X1 l1 y1 z1 st1 hQ1
  subst l1 y1 z1
  obtain ⟨rfl, N1q, e1⟩ := hQ1
  have N1 := Fr.app N0 N1q
  replace X1 : Stand p l e ({ frames := 1, cells := 0, slots := 0, locals := 14 } : Room) s m _ below meth c T1 _ 0 0 := X1
  refine own_go st1 ?_
  show WP p e below _ (T1.setTop (mkF m 6 #[.val (.int p1), .val (.int p2)] [(.int p1)]))
  exact own_retI X1 hx Bd.notSynchronized Bd.returns (hb hby d4_6) (show PQ h0 n0 (.int p1) _ _ _ from ⟨rfl, N1, e1⟩) (by decide) (by decide)
def Q_rm_tr (Z : State) (a1 : Addr) (p2 : Int32) (t : Addr) (k : ClassId) (nn : Int32) (xs : List Int32) (h0 : Heap) (n0 : Nat) (v : Option Value) (h : Heap) (L : List Loc) : Prop := v = none ∧ Fr n0 L ∧ Keep h0 h [a1] ∧ IL Z h a1 t k p2 xs
theorem pd_1 : parseMethodDescriptor "(II)I" = some ⟨[.int, .int], some .int⟩ := by decide +kernel
theorem d3_0 : decode prog_72_method_7_code 0 = .ok (.iload_n 1, 1) := by decide +kernel
theorem d3_1 : decode prog_72_method_7_code 1 = .ok (.aload_n 0, 1) := by decide +kernel
theorem d3_2 : decode prog_72_method_7_code 2 = .ok (.getfield 13, 3) := by decide +kernel
theorem d3_5 : decode prog_72_method_7_code 5 = .ok (.iconst 1, 1) := by decide +kernel
theorem d3_6 : decode prog_72_method_7_code 6 = .ok (.iadd, 1) := by decide +kernel
theorem d3_7 : decode prog_72_method_7_code 7 = .ok (.invokestatic 33, 3) := by decide +kernel
theorem d3_10 : decode prog_72_method_7_code 10 = .ok (.pop, 1) := by decide +kernel
theorem d3_11 : decode prog_72_method_7_code 11 = .ok (.aload_n 0, 1) := by decide +kernel
theorem d3_12 : decode prog_72_method_7_code 12 = .ok (.iload_n 1, 1) := by decide +kernel
theorem d3_13 : decode prog_72_method_7_code 13 = .ok (.putfield 13, 3) := by decide +kernel
theorem d3_16 : decode prog_72_method_7_code 16 = .ok (.return_, 1) := by decide +kernel
theorem ef_rm_tr (m : MethodId) (x0 : Addr) (x1 : Int32) : entryFrame m #[(.ref x0), (.int x1)] 2 = mkF m 0 #[.val (.ref x0), .val (.int x1)] [] := by first | (simp [entryFrame, mkF, argsToLocals, Value.category]; done) | rfl
set_option maxRecDepth 65536 in
set_option maxHeartbeats 40000000 in
theorem rm_tr (l : Launch) (Z : State) (a0 : Array Value) (hw : ∀ d ∈ tables_1, d.before a0 Z = true) (ws : List Jvm.Cond) (a1 : Addr) (p2 : Int32) (t : Addr) (k : ClassId) (nn : Int32) (xs : List Int32) (h0 : Heap) (n0 : Nat) (G : IL Z h0 a1 t k nn xs) (g_a : n0 ≤ a1) (c0 : ¬ (p2 < (0 : Int32))) (c1 : p2 < nn + 1) :
    MetFree l (⟨"com/example/prefold/prefold/passes/IntList", "truncate", "(I)V"⟩ : MethodName) (head1 (Jvm.Cond.code (⟨"com/example/prefold/prefold/passes/IntList", "truncate", "(I)V"⟩ : MethodName) prog_72_method_7_code 2 none :: ws) ({ frames := 2, cells := 0, slots := 0, locals := 27 } : Room)) (fun a U => a = #[(.ref a1), (.int p2)] ∧ Z.Warmed39 U.vm ∧ U.heap = h0) (fun _ _ _ _ _ => True) (fun _ U o U' => ∃ v L, o = .returned v ∧ (Q_rm_tr Z a1 p2 t k nn xs h0 n0) v U'.heap L ∧ FrameEnd U o U' L ({ frames := 2, cells := 0, slots := 0, locals := 27 } : Room).cells ({ frames := 2, cells := 0, slots := 0, locals := 27 } : Room).slots) := by
  refine MetFree.of_bodySF (plainFor_of_name pn_0) hisR ?_
  intro p e s m args below meth c s₁ Bd hml0 hP hK
  obtain ⟨rfl, hZ, hh⟩ := hP
  have hx := Bd.exec
  have hby := Bd.bytes
  have hml : c.maxLocals = 2 := hml0
  have hown : s.vm.findClass "com/example/prefold/prefold/passes/IntList" = some m.cls := findClass_of_methodNamed Bd.named
  have hnm := (name_of_methodNamed Bd.named Bd.method).1
  have X0 : Stand p l e ({ frames := 2, cells := 0, slots := 0, locals := 27 } : Room) s m #[(.ref a1), (.int p2)] below meth c s₁ [] 0 0 := Stand.of_body Bd
  have e0 : s₁.heap = h0 := by rw [← hh, Bd.state]; rfl
  have N0 := Fr.nil n0
  show WP p e below (GG (Q_rm_tr Z a1 p2 t k nn xs h0 n0) s ({ frames := 2, cells := 0, slots := 0, locals := 27 } : Room).cells ({ frames := 2, cells := 0, slots := 0, locals := 27 } : Room).slots) (s₁.setTop (entryFrame m #[(.ref a1), (.int p2)] 2))
  rw [ef_rm_tr m a1 p2]
  obtain ⟨E_a, F_v, F_s, V_t, ne_t⟩ := G
  show WP p e below _ (s₁.setTop (mkF m 0 #[.val (.ref a1), .val (.int p2)] []))
  refine own_go (fun t_ k => XS.iloadN X0.here hx rfl (hb hby d3_0) rfl k) ?_
  show WP p e below _ (s₁.setTop (mkF m 1 #[.val (.ref a1), .val (.int p2)] [(.int p2)]))
  refine own_go (fun t_ k => XS.aloadN X0.here hx rfl (hb hby d3_1) rfl rfl k) ?_
  show WP p e below _ (s₁.setTop (mkF m 2 #[.val (.ref a1), .val (.int p2)] [(.ref a1), (.int p2)]))
  obtain ⟨T1, X1, e1, st1⟩ := getF X0 hx hZ hown (host := "") (Or.inl (hw _ (List.mem_of_getElem? (i := 18) rfl))) Via.refl e0 F_s (g := (mkF m 2 #[.val (.ref a1), .val (.int p2)] [(.ref a1), (.int p2)])) rfl rfl (hb hby d3_2)
  refine own_go st1 ?_
  show WP p e below _ (T1.setTop (mkF m 5 #[.val (.ref a1), .val (.int p2)] [(.int nn), (.int p2)]))
  refine own_go (fun t_ k => XS.iconst X1.here hx rfl (hb hby d3_5) k) ?_
  show WP p e below _ (T1.setTop (mkF m 6 #[.val (.ref a1), .val (.int p2)] [(.int (1 : Int32)), (.int nn), (.int p2)]))
  refine own_go (fun t_ k => XS.iadd X1.here hx rfl (hb hby d3_6) rfl k) ?_
  show WP p e below _ (T1.setTop (mkF m 7 #[.val (.ref a1), .val (.int p2)] [(.int (nn + (1 : Int32))), (.int p2)]))
  obtain ⟨_, _, ⟨T2, L2, k2, n2⟩, -, X2, ⟨Lc2, hQ2, l2, y2, z2⟩, st2⟩ := Jvm.LawKit.callS X1 hx (y := (⟨"java/util/Objects", "checkIndex", "(II)I"⟩ : MethodName)) hown (mvT hZ (hw _ (List.mem_of_getElem? (i := 20) rfl))) (mvT hZ (hw _ (List.mem_of_getElem? (i := 21) rfl))) (mvT hZ (hw _ (List.mem_of_getElem? (i := 22) rfl))) (mvT hZ (hw _ (List.mem_of_getElem? (i := 23) rfl))) (by decide) (backOf (W := 0) (rm_chk l Z a0 hw [] p2 (nn + (1 : Int32)) h0 n0 c0 c1) hZ (hw _ (List.mem_of_getElem? (i := 23) rfl)) (hw _ (List.mem_of_getElem? (i := 22) rfl)) (by decide) (by decide)) (g := (mkF m 7 #[.val (.ref a1), .val (.int p2)] [(.int (nn + (1 : Int32))), (.int p2)])) rfl (by rw [hml]; rfl) (argsL := [(.int p2), (.int (nn + (1 : Int32)))]) (rest := []) (lenOf pd_1 rfl) rfl (by show 2 * 0 + _ ≤ _; exact Nat.le_of_eq rfl) (hb hby d3_7) (fun _ _ => ⟨rfl, e1, (by decide : 0 + 0 ≤ _), (by decide : 0 + 0 ≤ _)⟩)
  dsimp only [Pt.U, Pt.locs, Pt.cells, Pt.slots] at X2 l2 y2 z2 st2 hQ2
  subst l2 y2 z2
  obtain ⟨rfl, N2q, e2⟩ := hQ2
  have N2 := Fr.app N0 N2q
  replace X2 : Stand p l e ({ frames := 2, cells := 0, slots := 0, locals := 27 } : Room) s m _ below meth c T2 _ 0 0 := X2
  refine own_go st2 ?_
  show WP p e below _ (T2.setTop (mkF m 10 #[.val (.ref a1), .val (.int p2)] [(.int p2)]))
  refine own_go (fun t_ k => XS.pop X2.here hx rfl (hb hby d3_10) rfl rfl k) ?_
  show WP p e below _ (T2.setTop (mkF m 11 #[.val (.ref a1), .val (.int p2)] []))
  refine own_go (fun t_ k => XS.aloadN X2.here hx rfl (hb hby d3_11) rfl rfl k) ?_
  show WP p e below _ (T2.setTop (mkF m 12 #[.val (.ref a1), .val (.int p2)] [(.ref a1)]))
  refine own_go (fun t_ k => XS.iloadN X2.here hx rfl (hb hby d3_12) rfl k) ?_
  show WP p e below _ (T2.setTop (mkF m 13 #[.val (.ref a1), .val (.int p2)] [(.int p2), (.ref a1)]))
  obtain ⟨T3, h3, X3, e3, W3, st3⟩ := putF X2 hx hZ hown (host := "") (Or.inl (hw _ (List.mem_of_getElem? (i := 18) rfl))) Via.refl e2 F_s E_a (Or.inl (hw _ (List.mem_of_getElem? (i := 19) rfl))) (hw _ (List.mem_of_getElem? (i := 2) rfl)) (ty := .int) (by decide) rfl rfl (g := (mkF m 13 #[.val (.ref a1), .val (.int p2)] [(.int p2), (.ref a1)])) rfl rfl (hb hby d3_13)
  refine own_go st3 ?_
  have Fw3 := F_s.same W3
  have N3 := Fr.snoc X3 N2 g_a
  have K3 : Keep h0 h3 [a1] := (Keep.refl h0 [a1]).wr W3 (Or.inl (List.mem_of_getElem? (i := 0) rfl))
  show WP p e below _ (T3.setTop (mkF m 16 #[.val (.ref a1), .val (.int p2)] []))
  exact own_ret0 X3 hx Bd.notSynchronized Bd.returns (hb hby d3_16) (by rw [e3]; exact ⟨rfl, N3, K3, (E_a.wr W3), (F_v.other W3 (Or.inr (slot_ne (Or.inl (hw _ (List.mem_of_getElem? (i := 12) rfl))) (Or.inl (hw _ (List.mem_of_getElem? (i := 19) rfl))) (by decide) (t := (.array .int)) (t' := .int) (by decide) (by decide)))), Fw3, (V_t.other W3 (Ne.symm ne_t)), ne_t⟩) (by decide) (by decide)
theorem d6_0 : decode prog_72_method_2_code 0 = .ok (.aload_n 0, 1) := by decide +kernel
theorem d6_1 : decode prog_72_method_2_code 1 = .ok (.getfield 13, 3) := by decide +kernel
theorem d6_4 : decode prog_72_method_2_code 4 = .ok (.ireturn, 1) := by decide +kernel
theorem ef_rm_size (m : MethodId) (x0 : Addr) : entryFrame m #[(.ref x0)] 1 = mkF m 0 #[.val (.ref x0)] [] := by first | (simp [entryFrame, mkF, argsToLocals, Value.category]; done) | rfl
set_option maxRecDepth 65536 in
set_option maxHeartbeats 40000000 in
theorem rm_size (l : Launch) (Z : State) (a0 : Array Value) (hw : ∀ d ∈ tables_1, d.before a0 Z = true) (ws : List Jvm.Cond) (a1 : Addr) (t : Addr) (k : ClassId) (nn : Int32) (xs : List Int32) (h0 : Heap) (n0 : Nat) (G : IL Z h0 a1 t k nn xs) :
    MetFree l (⟨"com/example/prefold/prefold/passes/IntList", "size", "()I"⟩ : MethodName) (head1 (Jvm.Cond.code (⟨"com/example/prefold/prefold/passes/IntList", "size", "()I"⟩ : MethodName) prog_72_method_2_code 1 (some .int) :: ws) ({ frames := 0, cells := 0, slots := 0, locals := 0 } : Room)) (fun a U => a = #[(.ref a1)] ∧ Z.Warmed39 U.vm ∧ U.heap = h0) (fun _ _ _ _ _ => True) (fun _ U o U' => ∃ v L, o = .returned v ∧ (PQ h0 n0 (.int nn)) v U'.heap L ∧ FrameEnd U o U' L ({ frames := 0, cells := 0, slots := 0, locals := 0 } : Room).cells ({ frames := 0, cells := 0, slots := 0, locals := 0 } : Room).slots) := by
  refine MetFree.of_bodySF (plainFor_of_name pn_0) hisR ?_
  intro p e s m args below meth c s₁ Bd hml0 hP hK
  obtain ⟨rfl, hZ, hh⟩ := hP
  have hx := Bd.exec
  have hby := Bd.bytes
  have hml : c.maxLocals = 1 := hml0
  have hown : s.vm.findClass "com/example/prefold/prefold/passes/IntList" = some m.cls := findClass_of_methodNamed Bd.named
  have hnm := (name_of_methodNamed Bd.named Bd.method).1
  have X0 : Stand p l e ({ frames := 0, cells := 0, slots := 0, locals := 0 } : Room) s m #[(.ref a1)] below meth c s₁ [] 0 0 := Stand.of_body Bd
  have e0 : s₁.heap = h0 := by rw [← hh, Bd.state]; rfl
  have N0 := Fr.nil n0
  show WP p e below (GG (PQ h0 n0 (.int nn)) s ({ frames := 0, cells := 0, slots := 0, locals := 0 } : Room).cells ({ frames := 0, cells := 0, slots := 0, locals := 0 } : Room).slots) (s₁.setTop (entryFrame m #[(.ref a1)] 1))
  rw [ef_rm_size m a1]
  obtain ⟨E_a, F_v, F_s, V_t, ne_t⟩ := G
  show WP p e below _ (s₁.setTop (mkF m 0 #[.val (.ref a1)] []))
  refine own_go (fun t_ k => XS.aloadN X0.here hx rfl (hb hby d6_0) rfl rfl k) ?_
  show WP p e below _ (s₁.setTop (mkF m 1 #[.val (.ref a1)] [(.ref a1)]))
  obtain ⟨T1, X1, e1, st1⟩ := getF X0 hx hZ hown (host := "") (Or.inl (hw _ (List.mem_of_getElem? (i := 18) rfl))) Via.refl e0 F_s (g := (mkF m 1 #[.val (.ref a1)] [(.ref a1)])) rfl rfl (hb hby d6_1)
  refine own_go st1 ?_
  show WP p e below _ (T1.setTop (mkF m 4 #[.val (.ref a1)] [(.int nn)]))
  exact own_retI X1 hx Bd.notSynchronized Bd.returns (hb hby d6_4) (show PQ h0 n0 (.int nn) _ _ _ from ⟨rfl, N0, e1⟩) (by decide) (by decide)
theorem d9_0 : decode prog_72_method_3_code 0 = .ok (.aload_n 0, 1) := by decide +kernel
theorem d9_1 : decode prog_72_method_3_code 1 = .ok (.getfield 7, 3) := by decide +kernel
theorem d9_4 : decode prog_72_method_3_code 4 = .ok (.iload_n 1, 1) := by decide +kernel
theorem d9_5 : decode prog_72_method_3_code 5 = .ok (.iaload, 1) := by decide +kernel
theorem d9_6 : decode prog_72_method_3_code 6 = .ok (.ireturn, 1) := by decide +kernel
theorem ef_rm_get (m : MethodId) (x0 : Addr) (x1 : Int32) : entryFrame m #[(.ref x0), (.int x1)] 2 = mkF m 0 #[.val (.ref x0), .val (.int x1)] [] := by first | (simp [entryFrame, mkF, argsToLocals, Value.category]; done) | rfl
set_option maxRecDepth 65536 in
set_option maxHeartbeats 40000000 in
theorem rm_get (l : Launch) (Z : State) (a0 : Array Value) (hw : ∀ d ∈ tables_1, d.before a0 Z = true) (ws : List Jvm.Cond) (a1 : Addr) (p2 : Int32) (t : Addr) (k : ClassId) (nn : Int32) (xs : List Int32) (h0 : Heap) (n0 : Nat) (G : IL Z h0 a1 t k nn xs) (c0 : ¬ (p2 < 0)) (c1 : p2 < (4 : Int32)) :
    MetFree l (⟨"com/example/prefold/prefold/passes/IntList", "get", "(I)I"⟩ : MethodName) (head1 (Jvm.Cond.code (⟨"com/example/prefold/prefold/passes/IntList", "get", "(I)I"⟩ : MethodName) prog_72_method_3_code 2 (some .int) :: ws) ({ frames := 0, cells := 0, slots := 0, locals := 0 } : Room)) (fun a U => a = #[(.ref a1), (.int p2)] ∧ Z.Warmed39 U.vm ∧ U.heap = h0) (fun _ _ _ _ _ => True) (fun _ U o U' => ∃ v L, o = .returned v ∧ (PQ h0 n0 (.int (xs.getD p2.toNatClampNeg 0))) v U'.heap L ∧ FrameEnd U o U' L ({ frames := 0, cells := 0, slots := 0, locals := 0 } : Room).cells ({ frames := 0, cells := 0, slots := 0, locals := 0 } : Room).slots) := by
  refine MetFree.of_bodySF (plainFor_of_name pn_0) hisR ?_
  intro p e s m args below meth c s₁ Bd hml0 hP hK
  obtain ⟨rfl, hZ, hh⟩ := hP
  have hx := Bd.exec
  have hby := Bd.bytes
  have hml : c.maxLocals = 2 := hml0
  have hown : s.vm.findClass "com/example/prefold/prefold/passes/IntList" = some m.cls := findClass_of_methodNamed Bd.named
  have hnm := (name_of_methodNamed Bd.named Bd.method).1
  have X0 : Stand p l e ({ frames := 0, cells := 0, slots := 0, locals := 0 } : Room) s m #[(.ref a1), (.int p2)] below meth c s₁ [] 0 0 := Stand.of_body Bd
  have e0 : s₁.heap = h0 := by rw [← hh, Bd.state]; rfl
  have N0 := Fr.nil n0
  show WP p e below (GG (PQ h0 n0 (.int (xs.getD p2.toNatClampNeg 0))) s ({ frames := 0, cells := 0, slots := 0, locals := 0 } : Room).cells ({ frames := 0, cells := 0, slots := 0, locals := 0 } : Room).slots) (s₁.setTop (entryFrame m #[(.ref a1), (.int p2)] 2))
  rw [ef_rm_get m a1 p2]
  obtain ⟨E_a, F_v, F_s, V_t, ne_t⟩ := G
  show WP p e below _ (s₁.setTop (mkF m 0 #[.val (.ref a1), .val (.int p2)] []))
  refine own_go (fun t_ k => XS.aloadN X0.here hx rfl (hb hby d9_0) rfl rfl k) ?_
  show WP p e below _ (s₁.setTop (mkF m 1 #[.val (.ref a1), .val (.int p2)] [(.ref a1)]))
  obtain ⟨T1, X1, e1, st1⟩ := getF X0 hx hZ hown (host := "") (Or.inl (hw _ (List.mem_of_getElem? (i := 11) rfl))) Via.refl e0 F_v (g := (mkF m 1 #[.val (.ref a1), .val (.int p2)] [(.ref a1)])) rfl rfl (hb hby d9_1)
  refine own_go st1 ?_
  show WP p e below _ (T1.setTop (mkF m 4 #[.val (.ref a1), .val (.int p2)] [(.ref t)]))
  refine own_go (fun t_ k => XS.iloadN X1.here hx rfl (hb hby d9_4) rfl k) ?_
  show WP p e below _ (T1.setTop (mkF m 5 #[.val (.ref a1), .val (.int p2)] [(.int p2), (.ref t)]))
  obtain ⟨cl2, Ar2, -, S2, M2, H2, -⟩ := id (V_t)
  have hin2 : ¬ (p2 < 0 ∨ cl2.slots.size ≤ (p2).toNatClampNeg) := inb_of S2 (⟨c0, c1⟩)
  refine own_go (fun t_ k => X1.iaload hx (j := p2) (v := (.int (xs.getD p2.toNatClampNeg 0))) (by rw [e1]; exact Ar2.1) (State.isArrayOf_alike hZ.alike Ar2.2.1) Ar2.2.2 hin2 (H2.at hin2 (own_at xs p2)) (g := (mkF m 5 #[.val (.ref a1), .val (.int p2)] [(.int p2), (.ref t)])) rfl rfl (hb hby d9_5) _ k) ?_
  show WP p e below _ (T1.setTop (mkF m 6 #[.val (.ref a1), .val (.int p2)] [(.int (xs.getD p2.toNatClampNeg 0))]))
  exact own_retI X1 hx Bd.notSynchronized Bd.returns (hb hby d9_6) (show PQ h0 n0 (.int (xs.getD p2.toNatClampNeg 0)) _ _ _ from ⟨rfl, N0, e1⟩) (by decide) (by decide)
def f7 (i t v : Int32) (xs : List Int32) : Int32 := if i < t then (if (List.getD xs i.toNatClampNeg 0) = v then 1 else 0) else 1
theorem pd_2 : parseMethodDescriptor "(I)I" = some ⟨[.int], some .int⟩ := by decide +kernel
theorem d7_0 : decode method_2_code 0 = .ok (.iload_n 1, 1) := by decide +kernel
theorem d7_1 : decode method_2_code 1 = .ok (.iload_n 2, 1) := by decide +kernel
theorem d7_2 : decode method_2_code 2 = .ok (.if_icmp .ge 12, 3) := by decide +kernel
theorem d7_5 : decode method_2_code 5 = .ok (.aload_n 0, 1) := by decide +kernel
theorem d7_6 : decode method_2_code 6 = .ok (.iload_n 1, 1) := by decide +kernel
theorem d7_7 : decode method_2_code 7 = .ok (.invokevirtual 7, 3) := by decide +kernel
theorem d7_10 : decode method_2_code 10 = .ok (.iload_n 3, 1) := by decide +kernel
theorem d7_11 : decode method_2_code 11 = .ok (.if_icmp .ne 7, 3) := by decide +kernel
theorem d7_14 : decode method_2_code 14 = .ok (.iconst 1, 1) := by decide +kernel
theorem d7_15 : decode method_2_code 15 = .ok (.goto 4, 3) := by decide +kernel
theorem d7_18 : decode method_2_code 18 = .ok (.iconst 0, 1) := by decide +kernel
theorem d7_19 : decode method_2_code 19 = .ok (.ireturn, 1) := by decide +kernel
theorem pn_3 : plainName "com/example/prefold/prefold/passes/IntListTruncatePinLaw" = true := by first | (simp [plainName, overriddenIn]; done) | decide +kernel
theorem ef_rm_kept (m : MethodId) (x0 : Addr) (x1 : Int32) (x2 : Int32) (x3 : Int32) : entryFrame m #[(.ref x0), (.int x1), (.int x2), (.int x3)] 4 = mkF m 0 #[.val (.ref x0), .val (.int x1), .val (.int x2), .val (.int x3)] [] := by first | (simp [entryFrame, mkF, argsToLocals, Value.category]; done) | rfl
set_option maxRecDepth 65536 in
set_option maxHeartbeats 40000000 in
theorem rm_kept (l : Launch) (Z : State) (a0 : Array Value) (hw : ∀ d ∈ tables_1, d.before a0 Z = true) (ws : List Jvm.Cond) (a1 : Addr) (p2 : Int32) (p3 : Int32) (p4 : Int32) (t : Addr) (k : ClassId) (nn : Int32) (xs : List Int32) (h0 : Heap) (n0 : Nat) (G : IL Z h0 a1 t k nn xs) (c0 : ¬ (p2 < 0)) (c1 : p2 < (4 : Int32)) :
    MetFree l (⟨"com/example/prefold/prefold/passes/IntListTruncatePinLaw", "kept", "(Lcom/example/prefold/prefold/passes/IntList;III)Z"⟩ : MethodName) (head1 (Jvm.Cond.code (⟨"com/example/prefold/prefold/passes/IntListTruncatePinLaw", "kept", "(Lcom/example/prefold/prefold/passes/IntList;III)Z"⟩ : MethodName) method_2_code 4 (some .boolean) :: ws) ({ frames := 1, cells := 0, slots := 0, locals := 13 } : Room)) (fun a U => a = #[(.ref a1), (.int p2), (.int p3), (.int p4)] ∧ Z.Warmed39 U.vm ∧ U.heap = h0) (fun _ _ _ _ _ => True) (fun _ U o U' => ∃ v L, o = .returned v ∧ (PQ h0 n0 (.int (f7 p2 p3 p4 xs))) v U'.heap L ∧ FrameEnd U o U' L ({ frames := 1, cells := 0, slots := 0, locals := 13 } : Room).cells ({ frames := 1, cells := 0, slots := 0, locals := 13 } : Room).slots) := by
  refine MetFree.of_bodySF (plainFor_of_name pn_3) hisR ?_
  intro p e s m args below meth c s₁ Bd hml0 hP hK
  obtain ⟨rfl, hZ, hh⟩ := hP
  have hx := Bd.exec
  have hby := Bd.bytes
  have hml : c.maxLocals = 4 := hml0
  have hown : s.vm.findClass "com/example/prefold/prefold/passes/IntListTruncatePinLaw" = some m.cls := findClass_of_methodNamed Bd.named
  have hnm := (name_of_methodNamed Bd.named Bd.method).1
  have X0 : Stand p l e ({ frames := 1, cells := 0, slots := 0, locals := 13 } : Room) s m #[(.ref a1), (.int p2), (.int p3), (.int p4)] below meth c s₁ [] 0 0 := Stand.of_body Bd
  have e0 : s₁.heap = h0 := by rw [← hh, Bd.state]; rfl
  have N0 := Fr.nil n0
  show WP p e below (GG (PQ h0 n0 (.int (f7 p2 p3 p4 xs))) s ({ frames := 1, cells := 0, slots := 0, locals := 13 } : Room).cells ({ frames := 1, cells := 0, slots := 0, locals := 13 } : Room).slots) (s₁.setTop (entryFrame m #[(.ref a1), (.int p2), (.int p3), (.int p4)] 4))
  rw [ef_rm_kept m a1 p2 p3 p4]
  show WP p e below _ (s₁.setTop (mkF m 0 #[.val (.ref a1), .val (.int p2), .val (.int p3), .val (.int p4)] []))
  refine own_go (fun t_ k => XS.iloadN X0.here hx rfl (hb hby d7_0) rfl k) ?_
  show WP p e below _ (s₁.setTop (mkF m 1 #[.val (.ref a1), .val (.int p2), .val (.int p3), .val (.int p4)] [(.int p2)]))
  refine own_go (fun t_ k => XS.iloadN X0.here hx rfl (hb hby d7_1) rfl k) ?_
  show WP p e below _ (s₁.setTop (mkF m 2 #[.val (.ref a1), .val (.int p2), .val (.int p3), .val (.int p4)] [(.int p3), (.int p2)]))
  by_cases hc2_1 : p2 < p3
  · refine own_go (fun t_ k => XS.icmpNo X0.here hx rfl (hb hby d7_2) rfl (tlt hc2_1).2.1 k) ?_
    show WP p e below _ (s₁.setTop (mkF m 5 #[.val (.ref a1), .val (.int p2), .val (.int p3), .val (.int p4)] []))
    refine own_go (fun t_ k => XS.aloadN X0.here hx rfl (hb hby d7_5) rfl rfl k) ?_
    show WP p e below _ (s₁.setTop (mkF m 6 #[.val (.ref a1), .val (.int p2), .val (.int p3), .val (.int p4)] [(.ref a1)]))
    refine own_go (fun t_ k => XS.iloadN X0.here hx rfl (hb hby d7_6) rfl k) ?_
    show WP p e below _ (s₁.setTop (mkF m 7 #[.val (.ref a1), .val (.int p2), .val (.int p3), .val (.int p4)] [(.int p2), (.ref a1)]))
    obtain ⟨cq2, kq2, q2a, q2b, q2c⟩ := isOf (T := s₁) hZ e0 G.1
    obtain ⟨_, _, ⟨T2, L2, k2, n2⟩, -, X2, ⟨Lc2, hQ2, l2, y2, z2⟩, st2⟩ := X0.virtualBack hx (y := (⟨"com/example/prefold/prefold/passes/IntList", "get", "(I)I"⟩ : MethodName)) (z := (⟨"com/example/prefold/prefold/passes/IntList", "get", "(I)I"⟩ : MethodName)) hown (mvT hZ (hw _ (List.mem_of_getElem? (i := 42) rfl))) (mvT hZ (hw _ (List.mem_of_getElem? (i := 43) rfl))) (notFace_of_selects (args := #[]) (mvT hZ (hw _ (List.mem_of_getElem? (i := 45) rfl)))) (mvT hZ (hw _ (List.mem_of_getElem? (i := 45) rfl))) (mvT hZ (hw _ (List.mem_of_getElem? (i := 44) rfl))) (by decide) (backOf (W := 0) (rm_get l Z a0 hw [] a1 p2 t k nn xs h0 n0 G c0 c1) hZ (hw _ (List.mem_of_getElem? (i := 46) rfl)) (hw _ (List.mem_of_getElem? (i := 3) rfl)) (by decide) (by decide)) q2a q2c (g := (mkF m 7 #[.val (.ref a1), .val (.int p2), .val (.int p3), .val (.int p4)] [(.int p2), (.ref a1)])) rfl (by rw [hml]; rfl) (Steps.refl _) (argsL := [(.int p2)]) (rest := []) (lenOf pd_2 rfl) rfl (by show 2 * 0 + _ ≤ _; exact Nat.le_of_eq rfl) (hb hby d7_7) (fun _ _ => ⟨rfl, e0, (by decide : 0 + 0 ≤ _), (by decide : 0 + 0 ≤ _)⟩)
    dsimp only [Pt.U, Pt.locs, Pt.cells, Pt.slots] at X2 l2 y2 z2 st2 hQ2
    subst l2 y2 z2
    obtain ⟨rfl, N2q, e2⟩ := hQ2
    have N2 := Fr.app N0 N2q
    replace X2 : Stand p l e ({ frames := 1, cells := 0, slots := 0, locals := 13 } : Room) s m _ below meth c T2 _ 0 0 := X2
    refine own_go (fun t_ k => st2.trans k) ?_
    show WP p e below _ (T2.setTop (mkF m 10 #[.val (.ref a1), .val (.int p2), .val (.int p3), .val (.int p4)] [(.int (List.getD xs p2.toNatClampNeg 0))]))
    refine own_go (fun t_ k => XS.iloadN X2.here hx rfl (hb hby d7_10) rfl k) ?_
    show WP p e below _ (T2.setTop (mkF m 11 #[.val (.ref a1), .val (.int p2), .val (.int p3), .val (.int p4)] [(.int p4), (.int (List.getD xs p2.toNatClampNeg 0))]))
    by_cases hc11_3 : (List.getD xs p2.toNatClampNeg 0) = p4
    · refine own_go (fun t_ k => XS.icmpNo X2.here hx rfl (hb hby d7_11) rfl (teq hc11_3).2 k) ?_
      show WP p e below _ (T2.setTop (mkF m 14 #[.val (.ref a1), .val (.int p2), .val (.int p3), .val (.int p4)] []))
      refine own_go (fun t_ k => XS.iconst X2.here hx rfl (hb hby d7_14) k) ?_
      show WP p e below _ (T2.setTop (mkF m 15 #[.val (.ref a1), .val (.int p2), .val (.int p3), .val (.int p4)] [(.int (1 : Int32))]))
      refine own_go (fun t_ k => XS.goto X2.here hx rfl (pc0 := 15) (pc' := 19) rfl (hb hby d7_15) (by decide) (by decide) k) ?_
      show WP p e below _ (T2.setTop (mkF m 19 #[.val (.ref a1), .val (.int p2), .val (.int p3), .val (.int p4)] [(.int (1 : Int32))]))
      exact own_retZ X2 hx Bd.notSynchronized Bd.returns (hb hby d7_19) (by decide) (show PQ h0 n0 (.int (f7 p2 p3 p4 xs)) _ _ _ from ⟨by rw [f7, if_pos hc2_1, if_pos hc11_3], N2, e2⟩) (by decide) (by decide)
    · refine own_go (fun t_ k => XS.icmpYes X2.here hx rfl (pc0 := 11) (pc' := 18) rfl (hb hby d7_11) rfl (feq hc11_3).2 (by decide) (by decide) k) ?_
      show WP p e below _ (T2.setTop (mkF m 18 #[.val (.ref a1), .val (.int p2), .val (.int p3), .val (.int p4)] []))
      refine own_go (fun t_ k => XS.iconst X2.here hx rfl (hb hby d7_18) k) ?_
      show WP p e below _ (T2.setTop (mkF m 19 #[.val (.ref a1), .val (.int p2), .val (.int p3), .val (.int p4)] [(.int (0 : Int32))]))
      exact own_retZ X2 hx Bd.notSynchronized Bd.returns (hb hby d7_19) (by decide) (show PQ h0 n0 (.int (f7 p2 p3 p4 xs)) _ _ _ from ⟨by rw [f7, if_pos hc2_1, if_neg hc11_3], N2, e2⟩) (by decide) (by decide)
  · refine own_go (fun t_ k => XS.icmpYes X0.here hx rfl (pc0 := 2) (pc' := 14) rfl (hb hby d7_2) rfl (flt hc2_1).2.1 (by decide) (by decide) k) ?_
    show WP p e below _ (s₁.setTop (mkF m 14 #[.val (.ref a1), .val (.int p2), .val (.int p3), .val (.int p4)] []))
    refine own_go (fun t_ k => XS.iconst X0.here hx rfl (hb hby d7_14) k) ?_
    show WP p e below _ (s₁.setTop (mkF m 15 #[.val (.ref a1), .val (.int p2), .val (.int p3), .val (.int p4)] [(.int (1 : Int32))]))
    refine own_go (fun t_ k => XS.goto X0.here hx rfl (pc0 := 15) (pc' := 19) rfl (hb hby d7_15) (by decide) (by decide) k) ?_
    show WP p e below _ (s₁.setTop (mkF m 19 #[.val (.ref a1), .val (.int p2), .val (.int p3), .val (.int p4)] [(.int (1 : Int32))]))
    exact own_retZ X0 hx Bd.notSynchronized Bd.returns (hb hby d7_19) (by decide) (show PQ h0 n0 (.int (f7 p2 p3 p4 xs)) _ _ _ from ⟨by rw [f7, if_neg hc2_1], N0, e0⟩) (by decide) (by decide)
theorem pd_3 : parseMethodDescriptor "()V" = some ⟨[], none⟩ := by decide +kernel
theorem pd_4 : parseMethodDescriptor "(I)V" = some ⟨[.int], none⟩ := by decide +kernel
theorem pd_5 : parseMethodDescriptor "()I" = some ⟨[], some .int⟩ := by decide +kernel
theorem pd_6 : parseMethodDescriptor "(Lcom/example/prefold/prefold/passes/IntList;III)Z" = some ⟨[(.object "com/example/prefold/prefold/passes/IntList"), .int, .int, .int], some .boolean⟩ := by decide +kernel
theorem own_law_1 {p1 : Int32} {p2 : Int32} {p3 : Int32} {p4 : Int32} {p5 : Int32} {vi3 : Int32} {vi13 : Int32} {z15_S0 : Int32}
    (he1 : (p1 &&& (3 : Int32)) = (0 : Int32))
    (he3 : ((p2 &&& (2147483647 : Int32)) % (1 : Int32)) = vi3)
    (he13 : (f7 (0 : Int32) vi3 p3 ([] : List Int32)) = vi13)
    (hz15_S0 : z15_S0 = (if vi13 = (0 : Int32) then (0 : Int32) else (if (f7 (1 : Int32) vi3 p4 ([] : List Int32)) = (0 : Int32) then (0 : Int32) else (if (f7 (2 : Int32) vi3 p5 ([] : List Int32)) = (0 : Int32) then (0 : Int32) else (1 : Int32))))) (hc75_11 : (vi3 = vi3)) : z15_S0 = 1 := by
  have b := own_rem 1 1 rfl (by decide) he3
  have e : vi3 = 0 := by
    have o0 : (0 : Int32).toInt = 0 := rfl
    simp only [← Int32.toInt_inj]
    omega
  clear b he3
  rcases e with rfl
  all_goals (simp [f7] at *; try simp_all)
theorem own_law_2 {p1 : Int32} {p2 : Int32} {p3 : Int32} {p4 : Int32} {p5 : Int32} {vi21 : Int32} {vi32 : Int32} {z34_S0 : Int32}
    (he1 : (p1 &&& (3 : Int32)) = (1 : Int32))
    (he21 : ((p2 &&& (2147483647 : Int32)) % (2 : Int32)) = vi21)
    (he32 : (f7 (0 : Int32) vi21 p3 [p3]) = vi32)
    (hz34_S0 : z34_S0 = (if vi32 = (0 : Int32) then (0 : Int32) else (if (f7 (1 : Int32) vi21 p4 [p3]) = (0 : Int32) then (0 : Int32) else (if (f7 (2 : Int32) vi21 p5 [p3]) = (0 : Int32) then (0 : Int32) else (1 : Int32))))) (hc75_30 : (vi21 = vi21)) : z34_S0 = 1 := by
  have b := own_rem 2 2 rfl (by decide) he21
  have e : vi21 = 0 ∨ vi21 = 1 := by
    have o0 : (0 : Int32).toInt = 0 := rfl
    have o1 : (1 : Int32).toInt = 1 := rfl
    simp only [← Int32.toInt_inj]
    omega
  clear b he21
  rcases e with rfl | rfl
  all_goals (simp [f7] at *; try simp_all)
theorem own_law_3 {p1 : Int32} {p2 : Int32} {p3 : Int32} {p4 : Int32} {p5 : Int32} {vi40 : Int32} {vi52 : Int32} {z54_S0 : Int32}
    (he1 : (p1 &&& (3 : Int32)) = (2 : Int32))
    (he40 : ((p2 &&& (2147483647 : Int32)) % (3 : Int32)) = vi40)
    (he52 : (f7 (0 : Int32) vi40 p3 [p3, p4]) = vi52)
    (hz54_S0 : z54_S0 = (if vi52 = (0 : Int32) then (0 : Int32) else (if (f7 (1 : Int32) vi40 p4 [p3, p4]) = (0 : Int32) then (0 : Int32) else (if (f7 (2 : Int32) vi40 p5 [p3, p4]) = (0 : Int32) then (0 : Int32) else (1 : Int32))))) (hc75_50 : (vi40 = vi40)) : z54_S0 = 1 := by
  have b := own_rem 3 3 rfl (by decide) he40
  have e : vi40 = 0 ∨ vi40 = 1 ∨ vi40 = 2 := by
    have o0 : (0 : Int32).toInt = 0 := rfl
    have o1 : (1 : Int32).toInt = 1 := rfl
    have o2 : (2 : Int32).toInt = 2 := rfl
    simp only [← Int32.toInt_inj]
    omega
  clear b he40
  rcases e with rfl | rfl | rfl
  all_goals (simp [f7] at *; try simp_all)
theorem own_law_4 {p1 : Int32} {p2 : Int32} {p3 : Int32} {p4 : Int32} {p5 : Int32} {vi60 : Int32} {vi73 : Int32} {z75_S0 : Int32}
    (he1 : (p1 &&& (3 : Int32)) = (3 : Int32))
    (he60 : ((p2 &&& (2147483647 : Int32)) % (4 : Int32)) = vi60)
    (he73 : (f7 (0 : Int32) vi60 p3 [p3, p4, p5]) = vi73)
    (hz75_S0 : z75_S0 = (if vi73 = (0 : Int32) then (0 : Int32) else (if (f7 (1 : Int32) vi60 p4 [p3, p4, p5]) = (0 : Int32) then (0 : Int32) else (if (f7 (2 : Int32) vi60 p5 [p3, p4, p5]) = (0 : Int32) then (0 : Int32) else (1 : Int32))))) (hc75_71 : (vi60 = vi60)) : z75_S0 = 1 := by
  have b := own_rem 4 4 rfl (by decide) he60
  have e : vi60 = 0 ∨ vi60 = 1 ∨ vi60 = 2 ∨ vi60 = 3 := by
    have o0 : (0 : Int32).toInt = 0 := rfl
    have o1 : (1 : Int32).toInt = 1 := rfl
    have o2 : (2 : Int32).toInt = 2 := rfl
    have o3 : (3 : Int32).toInt = 3 := rfl
    simp only [← Int32.toInt_inj]
    omega
  clear b he60
  rcases e with rfl | rfl | rfl | rfl
  all_goals (simp [f7] at *; try simp_all)
theorem ef_rm0 (m : MethodId) (x0 : Int32) (x1 : Int32) (x2 : Int32) (x3 : Int32) (x4 : Int32) : entryFrame m #[(.int x0), (.int x1), (.int x2), (.int x3), (.int x4)] maxLocals = mkF m 0 #[.val (.int x0), .val (.int x1), .val (.int x2), .val (.int x3), .val (.int x4), .unset, .unset, .unset] [] := by first | (simp [entryFrame, mkF, argsToLocals, Value.category, maxLocals]; done) | rfl
set_option maxRecDepth 65536 in
set_option maxHeartbeats 40000000 in
theorem rm0 (l : Launch) (Z : State) (a0 : Array Value) (hw : ∀ d ∈ tables_1, d.before a0 Z = true) (ws : List Jvm.Cond) (p1 : Int32) (p2 : Int32) (p3 : Int32) (p4 : Int32) (p5 : Int32) (h0 : Heap) (n0 : Nat) (Z0 : n0 ≤ h0.size) :
    MetFree l x (head1 (Jvm.Cond.code x code maxLocals ret :: ws) room_1) (fun a U => a = #[(.int p1), (.int p2), (.int p3), (.int p4), (.int p5)] ∧ Z.Warmed39 U.vm ∧ U.heap = h0) (fun _ _ _ _ _ => True) (fun _ U o U' => ∃ v L, o = .returned v ∧ (Q0 n0) v U'.heap L ∧ FrameEnd U o U' L room_1.cells room_1.slots) := by
  refine MetFree.of_bodySF (plainFor_of_name pn_3) hisR ?_
  intro p e s m args below meth c s₁ Bd hml0 hP hK
  obtain ⟨rfl, hZ, hh⟩ := hP
  have hx := Bd.exec
  have hby := Bd.bytes
  have hml : c.maxLocals = 8 := hml0
  have hown : s.vm.findClass "com/example/prefold/prefold/passes/IntListTruncatePinLaw" = some m.cls := findClass_of_methodNamed Bd.named
  have hnm := (name_of_methodNamed Bd.named Bd.method).1
  have X0 : Stand p l e room_1 s m #[(.int p1), (.int p2), (.int p3), (.int p4), (.int p5)] below meth c s₁ [] 0 0 := Stand.of_body Bd
  have e0 : s₁.heap = h0 := by rw [← hh, Bd.state]; rfl
  have N0 := Fr.nil n0
  show WP p e below (GG (Q0 n0) s room_1.cells room_1.slots) (s₁.setTop (entryFrame m #[(.int p1), (.int p2), (.int p3), (.int p4), (.int p5)] maxLocals))
  rw [ef_rm0 m p1 p2 p3 p4 p5]
  show WP p e below _ (s₁.setTop (mkF m 0 #[.val (.int p1), .val (.int p2), .val (.int p3), .val (.int p4), .val (.int p5), .unset, .unset, .unset] []))
  refine own_go (fun t_ k => XS.iloadN X0.here hx rfl (hb hby at_0) rfl k) ?_
  show WP p e below _ (s₁.setTop (mkF m 1 #[.val (.int p1), .val (.int p2), .val (.int p3), .val (.int p4), .val (.int p5), .unset, .unset, .unset] [(.int p1)]))
  refine own_go (fun t_ k => XS.iconst X0.here hx rfl (hb hby at_1) k) ?_
  show WP p e below _ (s₁.setTop (mkF m 2 #[.val (.int p1), .val (.int p2), .val (.int p3), .val (.int p4), .val (.int p5), .unset, .unset, .unset] [(.int (3 : Int32)), (.int p1)]))
  refine own_go (fun t_ k => XS.iand X0.here hx rfl (hb hby at_2) rfl k) ?_
  show WP p e below _ (s₁.setTop (mkF m 3 #[.val (.int p1), .val (.int p2), .val (.int p3), .val (.int p4), .val (.int p5), .unset, .unset, .unset] [(.int (p1 &&& (3 : Int32)))]))
  refine own_go (fun t_ k => XS.istore X0.here hx rfl (hb hby at_3) rfl (l' := #[.val (.int p1), .val (.int p2), .val (.int p3), .val (.int p4), .val (.int p5), .val (.int (p1 &&& (3 : Int32))), .unset, .unset]) rfl k) ?_
  show WP p e below _ (s₁.setTop (mkF m 5 #[.val (.int p1), .val (.int p2), .val (.int p3), .val (.int p4), .val (.int p5), .val (.int (p1 &&& (3 : Int32))), .unset, .unset] []))
  generalize he1 : (p1 &&& (3 : Int32)) = vi1
  rcases own_and3 he1 with hs2 | hs2 | hs2 | hs2
  · subst hs2
    show WP p e below _ (s₁.setTop (mkF m 5 #[.val (.int p1), .val (.int p2), .val (.int p3), .val (.int p4), .val (.int p5), .val (.int (0 : Int32)), .unset, .unset] []))
    refine own_go (fun t_ k => XS.iloadN X0.here hx rfl (hb hby at_5) rfl k) ?_
    show WP p e below _ (s₁.setTop (mkF m 6 #[.val (.int p1), .val (.int p2), .val (.int p3), .val (.int p4), .val (.int p5), .val (.int (0 : Int32)), .unset, .unset] [(.int p2)]))
    refine own_go (fun t_ k => X0.ldcInt hx hown (mvT hZ (hw _ (List.mem_of_getElem? (i := 0) rfl))) (g := (mkF m 6 #[.val (.int p1), .val (.int p2), .val (.int p3), .val (.int p4), .val (.int p5), .val (.int (0 : Int32)), .unset, .unset] [(.int p2)])) rfl (hb hby at_6) _ k) ?_
    show WP p e below _ (s₁.setTop (mkF m 8 #[.val (.int p1), .val (.int p2), .val (.int p3), .val (.int p4), .val (.int p5), .val (.int (0 : Int32)), .unset, .unset] [(.int (2147483647 : Int32)), (.int p2)]))
    refine own_go (fun t_ k => XS.iand X0.here hx rfl (hb hby at_8) rfl k) ?_
    show WP p e below _ (s₁.setTop (mkF m 9 #[.val (.int p1), .val (.int p2), .val (.int p3), .val (.int p4), .val (.int p5), .val (.int (0 : Int32)), .unset, .unset] [(.int (p2 &&& (2147483647 : Int32)))]))
    refine own_go (fun t_ k => XS.iload X0.here hx rfl (hb hby at_9) rfl k) ?_
    show WP p e below _ (s₁.setTop (mkF m 11 #[.val (.int p1), .val (.int p2), .val (.int p3), .val (.int p4), .val (.int p5), .val (.int (0 : Int32)), .unset, .unset] [(.int (0 : Int32)), (.int (p2 &&& (2147483647 : Int32)))]))
    refine own_go (fun t_ k => XS.iconst X0.here hx rfl (hb hby at_11) k) ?_
    show WP p e below _ (s₁.setTop (mkF m 12 #[.val (.int p1), .val (.int p2), .val (.int p3), .val (.int p4), .val (.int p5), .val (.int (0 : Int32)), .unset, .unset] [(.int (1 : Int32)), (.int (0 : Int32)), (.int (p2 &&& (2147483647 : Int32)))]))
    refine own_go (fun t_ k => XS.iadd X0.here hx rfl (hb hby at_12) rfl k) ?_
    show WP p e below _ (s₁.setTop (mkF m 13 #[.val (.int p1), .val (.int p2), .val (.int p3), .val (.int p4), .val (.int p5), .val (.int (0 : Int32)), .unset, .unset] [(.int (1 : Int32)), (.int (p2 &&& (2147483647 : Int32)))]))
    refine own_go (fun t_ k => iremM X0 hx rfl (hb hby at_13) rfl (by decide) k) ?_
    show WP p e below _ (s₁.setTop (mkF m 14 #[.val (.int p1), .val (.int p2), .val (.int p3), .val (.int p4), .val (.int p5), .val (.int (0 : Int32)), .unset, .unset] [(.int ((p2 &&& (2147483647 : Int32)) % (1 : Int32)))]))
    refine own_go (fun t_ k => XS.istore X0.here hx rfl (hb hby at_14) rfl (l' := #[.val (.int p1), .val (.int p2), .val (.int p3), .val (.int p4), .val (.int p5), .val (.int (0 : Int32)), .val (.int ((p2 &&& (2147483647 : Int32)) % (1 : Int32))), .unset]) rfl k) ?_
    show WP p e below _ (s₁.setTop (mkF m 16 #[.val (.int p1), .val (.int p2), .val (.int p3), .val (.int p4), .val (.int p5), .val (.int (0 : Int32)), .val (.int ((p2 &&& (2147483647 : Int32)) % (1 : Int32))), .unset] []))
    generalize he3 : ((p2 &&& (2147483647 : Int32)) % (1 : Int32)) = vi3
    show WP p e below _ (s₁.setTop (mkF m 16 #[.val (.int p1), .val (.int p2), .val (.int p3), .val (.int p4), .val (.int p5), .val (.int (0 : Int32)), .val (.int vi3), .unset] []))
    obtain ⟨T4, h4, X4, e4, E4, A4, D4, -, st4⟩ := newO X0 hx hZ hown (hw _ (List.mem_of_getElem? (i := 1) rfl)) (hw _ (List.mem_of_getElem? (i := 2) rfl)) (hw _ (List.mem_of_getElem? (i := 3) rfl)) e0 (g := (mkF m 16 #[.val (.int p1), .val (.int p2), .val (.int p3), .val (.int p4), .val (.int p5), .val (.int (0 : Int32)), .val (.int vi3), .unset] [])) rfl (hb hby at_16) (by decide) (by decide)
    obtain ⟨b4, g4⟩ : ∃ z, z = Array.size h0 := ⟨_, rfl⟩
    rw [← g4] at A4 D4 st4
    refine own_go st4 ?_
    have g_b4 : n0 ≤ b4 := Nat.le_trans (Nat.le_trans Z0 (Keep.refl h0 []).1) (Nat.le_of_eq g4.symm)
    have sz_b4 : h0.size ≤ b4 := Nat.le_trans (Keep.refl h0 []).1 (Nat.le_of_eq g4.symm)
    have K4 : Keep h0 h4 [] := (Keep.refl h0 []).ext E4
    have F4_values : Fld Z h4 b4 "com/example/prefold/prefold/passes/IntList" "values" "[I" .null := D4 (Or.inl (hw _ (List.mem_of_getElem? (i := 12) rfl))) (ty := (.array .int)) (by decide)
    have F4_size : Fld Z h4 b4 "com/example/prefold/prefold/passes/IntList" "size" "I" (.int (0 : Int32)) := D4 (Or.inl (hw _ (List.mem_of_getElem? (i := 19) rfl))) (ty := .int) (by decide)
    show WP p e below _ (T4.setTop (mkF m 19 #[.val (.int p1), .val (.int p2), .val (.int p3), .val (.int p4), .val (.int p5), .val (.int (0 : Int32)), .val (.int vi3), .unset] [(.ref b4)]))
    refine own_go (fun t_ k => XS.dup X4.here hx rfl (hb hby at_19) rfl rfl k) ?_
    show WP p e below _ (T4.setTop (mkF m 20 #[.val (.int p1), .val (.int p2), .val (.int p3), .val (.int p4), .val (.int p5), .val (.int (0 : Int32)), .val (.int vi3), .unset] [(.ref b4), (.ref b4)]))
    obtain ⟨_, _, ⟨T5, L5, k5, n5⟩, -, X5, ⟨Lc5, hQ5, l5, y5, z5⟩, st5⟩ := X4.specialBack hx (y := (⟨"com/example/prefold/prefold/passes/IntList", "<init>", "()V"⟩ : MethodName)) rfl hown (mvT hZ (hw _ (List.mem_of_getElem? (i := 4) rfl))) (mvT hZ (hw _ (List.mem_of_getElem? (i := 5) rfl))) (mvT hZ (hw _ (List.mem_of_getElem? (i := 6) rfl))) (by decide) (backOf (W := 1) (rm_i0 l Z a0 hw [] b4 h4 n0 (Nat.le_trans Z0 K4.1) A4 g_b4 F4_values F4_size) hZ (hw _ (List.mem_of_getElem? (i := 6) rfl)) (hw _ (List.mem_of_getElem? (i := 3) rfl)) (by decide) (by decide)) (g := (mkF m 20 #[.val (.int p1), .val (.int p2), .val (.int p3), .val (.int p4), .val (.int p5), .val (.int (0 : Int32)), .val (.int vi3), .unset] [(.ref b4), (.ref b4)])) rfl (by rw [hml]; rfl) (Steps.refl _) (a := b4) (argsL := []) (rest := [(.ref b4)]) (lenOf pd_3 rfl) rfl (by show 2 * 0 + _ ≤ _; exact Nat.le_of_eq rfl) (hb hby at_20) (fun _ _ => ⟨rfl, e4, (by decide : 1 + 1 ≤ _), (by decide : 2 + 4 ≤ _)⟩)
    dsimp only [Pt.U, Pt.locs, Pt.cells, Pt.slots] at X5 l5 y5 z5 st5 hQ5
    subst l5 y5 z5
    obtain ⟨rfl, N5q, K5c, t5, kk5, gt5, st5', P5⟩ := hQ5
    have N5 := Fr.app N0 N5q
    replace X5 : Stand p l e room_1 s m _ below meth c T5 _ 2 6 := X5
    refine own_go (fun t_ k => st5.trans k) ?_
    have K5 : Keep h0 T5.heap [] := K4.trans K5c (allS (Or.inr sz_b4) all0)
    have szt5 : h0.size ≤ t5 := Nat.le_trans K4.1 st5'
    show WP p e below _ (T5.setTop (mkF m 23 #[.val (.int p1), .val (.int p2), .val (.int p3), .val (.int p4), .val (.int p5), .val (.int (0 : Int32)), .val (.int vi3), .unset] [(.ref b4)]))
    refine own_go (fun t_ k => XS.astore X5.here hx rfl (hb hby at_23) rfl rfl (l' := #[.val (.int p1), .val (.int p2), .val (.int p3), .val (.int p4), .val (.int p5), .val (.int (0 : Int32)), .val (.int vi3), .val (.ref b4)]) rfl k) ?_
    show WP p e below _ (T5.setTop (mkF m 25 #[.val (.int p1), .val (.int p2), .val (.int p3), .val (.int p4), .val (.int p5), .val (.int (0 : Int32)), .val (.int vi3), .val (.ref b4)] []))
    refine own_go (fun t_ k => XS.iload X5.here hx rfl (hb hby at_25) rfl k) ?_
    show WP p e below _ (T5.setTop (mkF m 27 #[.val (.int p1), .val (.int p2), .val (.int p3), .val (.int p4), .val (.int p5), .val (.int (0 : Int32)), .val (.int vi3), .val (.ref b4)] [(.int (0 : Int32))]))
    have hc27_6 : ¬ ((0 : Int32) < (0 : Int32)) := by decide
    refine own_go (fun t_ k => XS.ifYes X5.here hx rfl (pc0 := 27) (pc' := 36) rfl (hb hby at_27) rfl ((if0 _ _).trans (flt hc27_6).2.2.2) (by decide) (by decide) k) ?_
    show WP p e below _ (T5.setTop (mkF m 36 #[.val (.int p1), .val (.int p2), .val (.int p3), .val (.int p4), .val (.int p5), .val (.int (0 : Int32)), .val (.int vi3), .val (.ref b4)] []))
    refine own_go (fun t_ k => XS.iload X5.here hx rfl (hb hby at_36) rfl k) ?_
    show WP p e below _ (T5.setTop (mkF m 38 #[.val (.int p1), .val (.int p2), .val (.int p3), .val (.int p4), .val (.int p5), .val (.int (0 : Int32)), .val (.int vi3), .val (.ref b4)] [(.int (0 : Int32))]))
    refine own_go (fun t_ k => XS.iconst X5.here hx rfl (hb hby at_38) k) ?_
    show WP p e below _ (T5.setTop (mkF m 39 #[.val (.int p1), .val (.int p2), .val (.int p3), .val (.int p4), .val (.int p5), .val (.int (0 : Int32)), .val (.int vi3), .val (.ref b4)] [(.int (1 : Int32)), (.int (0 : Int32))]))
    have hc39_7 : ¬ ((1 : Int32) < (0 : Int32)) := by decide
    refine own_go (fun t_ k => XS.icmpYes X5.here hx rfl (pc0 := 39) (pc' := 48) rfl (hb hby at_39) rfl (flt hc39_7).2.2.2 (by decide) (by decide) k) ?_
    show WP p e below _ (T5.setTop (mkF m 48 #[.val (.int p1), .val (.int p2), .val (.int p3), .val (.int p4), .val (.int p5), .val (.int (0 : Int32)), .val (.int vi3), .val (.ref b4)] []))
    refine own_go (fun t_ k => XS.iload X5.here hx rfl (hb hby at_48) rfl k) ?_
    show WP p e below _ (T5.setTop (mkF m 50 #[.val (.int p1), .val (.int p2), .val (.int p3), .val (.int p4), .val (.int p5), .val (.int (0 : Int32)), .val (.int vi3), .val (.ref b4)] [(.int (0 : Int32))]))
    refine own_go (fun t_ k => XS.iconst X5.here hx rfl (hb hby at_50) k) ?_
    show WP p e below _ (T5.setTop (mkF m 51 #[.val (.int p1), .val (.int p2), .val (.int p3), .val (.int p4), .val (.int p5), .val (.int (0 : Int32)), .val (.int vi3), .val (.ref b4)] [(.int (2 : Int32)), (.int (0 : Int32))]))
    have hc51_8 : ¬ ((2 : Int32) < (0 : Int32)) := by decide
    refine own_go (fun t_ k => XS.icmpYes X5.here hx rfl (pc0 := 51) (pc' := 61) rfl (hb hby at_51) rfl (flt hc51_8).2.2.2 (by decide) (by decide) k) ?_
    show WP p e below _ (T5.setTop (mkF m 61 #[.val (.int p1), .val (.int p2), .val (.int p3), .val (.int p4), .val (.int p5), .val (.int (0 : Int32)), .val (.int vi3), .val (.ref b4)] []))
    refine own_go (fun t_ k => XS.aload X5.here hx rfl (hb hby at_61) rfl rfl k) ?_
    show WP p e below _ (T5.setTop (mkF m 63 #[.val (.int p1), .val (.int p2), .val (.int p3), .val (.int p4), .val (.int p5), .val (.int (0 : Int32)), .val (.int vi3), .val (.ref b4)] [(.ref b4)]))
    refine own_go (fun t_ k => XS.iload X5.here hx rfl (hb hby at_63) rfl k) ?_
    show WP p e below _ (T5.setTop (mkF m 65 #[.val (.int p1), .val (.int p2), .val (.int p3), .val (.int p4), .val (.int p5), .val (.int (0 : Int32)), .val (.int vi3), .val (.ref b4)] [(.int vi3), (.ref b4)]))
    obtain ⟨cq9, kq9, q9a, q9b, q9c⟩ := isOf (T := T5) hZ rfl P5.1
    obtain ⟨_, _, ⟨T9, L9, k9, n9⟩, -, X9, ⟨Lc9, hQ9, l9, y9, z9⟩, st9⟩ := X5.virtualBack hx (y := (⟨"com/example/prefold/prefold/passes/IntList", "truncate", "(I)V"⟩ : MethodName)) (z := (⟨"com/example/prefold/prefold/passes/IntList", "truncate", "(I)V"⟩ : MethodName)) hown (mvT hZ (hw _ (List.mem_of_getElem? (i := 13) rfl))) (mvT hZ (hw _ (List.mem_of_getElem? (i := 14) rfl))) (notFace_of_selects (args := #[]) (mvT hZ (hw _ (List.mem_of_getElem? (i := 16) rfl)))) (mvT hZ (hw _ (List.mem_of_getElem? (i := 16) rfl))) (mvT hZ (hw _ (List.mem_of_getElem? (i := 15) rfl))) (by decide) (backOf (W := 0) (rm_tr l Z a0 hw [] b4 vi3 t5 kk5 (0 : Int32) ([] : List Int32) T5.heap n0 P5 g_b4 (by have b := own_rem 1 1 rfl (by decide) he3; have o : (0 : Int32).toInt = 0 := rfl; rw [Int32.lt_iff_toInt_lt]; omega) (by have b := own_rem 1 1 rfl (by decide) he3; have o : ((0 : Int32) + 1).toInt = 1 := rfl; rw [Int32.lt_iff_toInt_lt]; omega)) hZ (hw _ (List.mem_of_getElem? (i := 17) rfl)) (hw _ (List.mem_of_getElem? (i := 3) rfl)) (by decide) (by decide)) q9a q9c (g := (mkF m 65 #[.val (.int p1), .val (.int p2), .val (.int p3), .val (.int p4), .val (.int p5), .val (.int (0 : Int32)), .val (.int vi3), .val (.ref b4)] [(.int vi3), (.ref b4)])) rfl (by rw [hml]; rfl) (Steps.refl _) (argsL := [(.int vi3)]) (rest := []) (lenOf pd_4 rfl) rfl (by show 2 * 0 + _ ≤ _; exact Nat.le_of_eq rfl) (hb hby at_65) (fun _ _ => ⟨rfl, rfl, (by decide : 2 + 0 ≤ _), (by decide : 6 + 0 ≤ _)⟩)
    dsimp only [Pt.U, Pt.locs, Pt.cells, Pt.slots] at X9 l9 y9 z9 st9 hQ9
    subst l9 y9 z9
    obtain ⟨rfl, N9q, K9c, P9⟩ := hQ9
    have N9 := Fr.app N5 N9q
    replace X9 : Stand p l e room_1 s m _ below meth c T9 _ 2 6 := X9
    refine own_go (fun t_ k => st9.trans k) ?_
    have K9 : Keep h0 T9.heap [] := K5.trans K9c (allS (Or.inr sz_b4) all0)
    show WP p e below _ (T9.setTop (mkF m 68 #[.val (.int p1), .val (.int p2), .val (.int p3), .val (.int p4), .val (.int p5), .val (.int (0 : Int32)), .val (.int vi3), .val (.ref b4)] []))
    refine own_go (fun t_ k => XS.aload X9.here hx rfl (hb hby at_68) rfl rfl k) ?_
    show WP p e below _ (T9.setTop (mkF m 70 #[.val (.int p1), .val (.int p2), .val (.int p3), .val (.int p4), .val (.int p5), .val (.int (0 : Int32)), .val (.int vi3), .val (.ref b4)] [(.ref b4)]))
    obtain ⟨cq10, kq10, q10a, q10b, q10c⟩ := isOf (T := T9) hZ rfl P9.1
    obtain ⟨_, _, ⟨T10, L10, k10, n10⟩, -, X10, ⟨Lc10, hQ10, l10, y10, z10⟩, st10⟩ := X9.virtualBack hx (y := (⟨"com/example/prefold/prefold/passes/IntList", "size", "()I"⟩ : MethodName)) (z := (⟨"com/example/prefold/prefold/passes/IntList", "size", "()I"⟩ : MethodName)) hown (mvT hZ (hw _ (List.mem_of_getElem? (i := 28) rfl))) (mvT hZ (hw _ (List.mem_of_getElem? (i := 29) rfl))) (notFace_of_selects (args := #[]) (mvT hZ (hw _ (List.mem_of_getElem? (i := 31) rfl)))) (mvT hZ (hw _ (List.mem_of_getElem? (i := 31) rfl))) (mvT hZ (hw _ (List.mem_of_getElem? (i := 30) rfl))) (by decide) (backOf (W := 0) (rm_size l Z a0 hw [] b4 t5 kk5 vi3 ([] : List Int32) T9.heap n0 P9) hZ (hw _ (List.mem_of_getElem? (i := 32) rfl)) (hw _ (List.mem_of_getElem? (i := 3) rfl)) (by decide) (by decide)) q10a q10c (g := (mkF m 70 #[.val (.int p1), .val (.int p2), .val (.int p3), .val (.int p4), .val (.int p5), .val (.int (0 : Int32)), .val (.int vi3), .val (.ref b4)] [(.ref b4)])) rfl (by rw [hml]; rfl) (Steps.refl _) (argsL := []) (rest := []) (lenOf pd_5 rfl) rfl (by show 2 * 0 + _ ≤ _; exact Nat.le_of_eq rfl) (hb hby at_70) (fun _ _ => ⟨rfl, rfl, (by decide : 2 + 0 ≤ _), (by decide : 6 + 0 ≤ _)⟩)
    dsimp only [Pt.U, Pt.locs, Pt.cells, Pt.slots] at X10 l10 y10 z10 st10 hQ10
    subst l10 y10 z10
    obtain ⟨rfl, N10q, e10⟩ := hQ10
    have N10 := Fr.app N9 N10q
    replace X10 : Stand p l e room_1 s m _ below meth c T10 _ 2 6 := X10
    refine own_go (fun t_ k => st10.trans k) ?_
    show WP p e below _ (T10.setTop (mkF m 73 #[.val (.int p1), .val (.int p2), .val (.int p3), .val (.int p4), .val (.int p5), .val (.int (0 : Int32)), .val (.int vi3), .val (.ref b4)] [(.int vi3)]))
    refine own_go (fun t_ k => XS.iload X10.here hx rfl (hb hby at_73) rfl k) ?_
    show WP p e below _ (T10.setTop (mkF m 75 #[.val (.int p1), .val (.int p2), .val (.int p3), .val (.int p4), .val (.int p5), .val (.int (0 : Int32)), .val (.int vi3), .val (.ref b4)] [(.int vi3), (.int vi3)]))
    have hc75_11 : (vi3 = vi3) := rfl
    refine own_go (fun t_ k => XS.icmpYes X10.here hx rfl (pc0 := 75) (pc' := 80) rfl (hb hby at_75) rfl (teq hc75_11).1 (by decide) (by decide) k) ?_
    show WP p e below _ (T10.setTop (mkF m 80 #[.val (.int p1), .val (.int p2), .val (.int p3), .val (.int p4), .val (.int p5), .val (.int (0 : Int32)), .val (.int vi3), .val (.ref b4)] []))
    refine own_go (fun t_ k => XS.aload X10.here hx rfl (hb hby at_80) rfl rfl k) ?_
    show WP p e below _ (T10.setTop (mkF m 82 #[.val (.int p1), .val (.int p2), .val (.int p3), .val (.int p4), .val (.int p5), .val (.int (0 : Int32)), .val (.int vi3), .val (.ref b4)] [(.ref b4)]))
    refine own_go (fun t_ k => XS.iconst X10.here hx rfl (hb hby at_82) k) ?_
    show WP p e below _ (T10.setTop (mkF m 83 #[.val (.int p1), .val (.int p2), .val (.int p3), .val (.int p4), .val (.int p5), .val (.int (0 : Int32)), .val (.int vi3), .val (.ref b4)] [(.int (0 : Int32)), (.ref b4)]))
    refine own_go (fun t_ k => XS.iload X10.here hx rfl (hb hby at_83) rfl k) ?_
    show WP p e below _ (T10.setTop (mkF m 85 #[.val (.int p1), .val (.int p2), .val (.int p3), .val (.int p4), .val (.int p5), .val (.int (0 : Int32)), .val (.int vi3), .val (.ref b4)] [(.int vi3), (.int (0 : Int32)), (.ref b4)]))
    refine own_go (fun t_ k => XS.iloadN X10.here hx rfl (hb hby at_85) rfl k) ?_
    show WP p e below _ (T10.setTop (mkF m 86 #[.val (.int p1), .val (.int p2), .val (.int p3), .val (.int p4), .val (.int p5), .val (.int (0 : Int32)), .val (.int vi3), .val (.ref b4)] [(.int p3), (.int vi3), (.int (0 : Int32)), (.ref b4)]))
    obtain ⟨_, _, ⟨T12, L12, k12, n12⟩, -, X12, ⟨Lc12, hQ12, l12, y12, z12⟩, st12⟩ := Jvm.LawKit.callS X10 hx (y := (⟨"com/example/prefold/prefold/passes/IntListTruncatePinLaw", "kept", "(Lcom/example/prefold/prefold/passes/IntList;III)Z"⟩ : MethodName)) hown (mvT hZ (hw _ (List.mem_of_getElem? (i := 33) rfl))) (mvT hZ (hw _ (List.mem_of_getElem? (i := 34) rfl))) (mvT hZ (hw _ (List.mem_of_getElem? (i := 35) rfl))) (mvT hZ (hw _ (List.mem_of_getElem? (i := 36) rfl))) (by decide) (backOf (W := 0) (rm_kept l Z a0 hw [] b4 (0 : Int32) vi3 p3 t5 kk5 vi3 ([] : List Int32) T9.heap n0 P9 (by decide) (by decide)) hZ (hw _ (List.mem_of_getElem? (i := 36) rfl)) (hw _ (List.mem_of_getElem? (i := 35) rfl)) (by decide) (by decide)) (g := (mkF m 86 #[.val (.int p1), .val (.int p2), .val (.int p3), .val (.int p4), .val (.int p5), .val (.int (0 : Int32)), .val (.int vi3), .val (.ref b4)] [(.int p3), (.int vi3), (.int (0 : Int32)), (.ref b4)])) rfl (by rw [hml]; rfl) (argsL := [(.ref b4), (.int (0 : Int32)), (.int vi3), (.int p3)]) (rest := []) (lenOf pd_6 rfl) rfl (by show 2 * 0 + _ ≤ _; exact Nat.le_of_eq rfl) (hb hby at_86) (fun _ _ => ⟨rfl, e10, (by decide : 2 + 0 ≤ _), (by decide : 6 + 0 ≤ _)⟩)
    dsimp only [Pt.U, Pt.locs, Pt.cells, Pt.slots] at X12 l12 y12 z12 st12 hQ12
    subst l12 y12 z12
    obtain ⟨rfl, N12q, e12⟩ := hQ12
    have N12 := Fr.app N10 N12q
    replace X12 : Stand p l e room_1 s m _ below meth c T12 _ 2 6 := X12
    refine own_go st12 ?_
    show WP p e below _ (T12.setTop (mkF m 89 #[.val (.int p1), .val (.int p2), .val (.int p3), .val (.int p4), .val (.int p5), .val (.int (0 : Int32)), .val (.int vi3), .val (.ref b4)] [(.int (f7 (0 : Int32) vi3 p3 ([] : List Int32)))]))
    generalize he13 : (f7 (0 : Int32) vi3 p3 ([] : List Int32)) = vi13
    show WP p e below _ (T12.setTop (mkF m 89 #[.val (.int p1), .val (.int p2), .val (.int p3), .val (.int p4), .val (.int p5), .val (.int (0 : Int32)), .val (.int vi3), .val (.ref b4)] [(.int vi13)]))
    have J16 : ∀ (T16 : State) (ls16 : List Loc) (X16 : Stand p l e room_1 s m #[(.int p1), (.int p2), (.int p3), (.int p4), (.int p5)] below meth c T16 ls16 2 6) (N16 : Fr n0 ls16) (e16 : T16.heap = T9.heap) (z15_S0 : Int32) (hz15_S0 : z15_S0 = (if vi13 = (0 : Int32) then (0 : Int32) else (if (f7 (1 : Int32) vi3 p4 ([] : List Int32)) = (0 : Int32) then (0 : Int32) else (if (f7 (2 : Int32) vi3 p5 ([] : List Int32)) = (0 : Int32) then (0 : Int32) else (1 : Int32))))), WP p e below (GG (Q0 n0) s room_1.cells room_1.slots) (T16.setTop (mkF m 122 #[.val (.int p1), .val (.int p2), .val (.int p3), .val (.int p4), .val (.int p5), .val (.int (0 : Int32)), .val (.int vi3), .val (.ref b4)] [(.int z15_S0)])) := by
      intro T16 ls16 X16 N16 e16 z15_S0 hz15_S0
      show WP p e below _ (T16.setTop (mkF m 122 #[.val (.int p1), .val (.int p2), .val (.int p3), .val (.int p4), .val (.int p5), .val (.int (0 : Int32)), .val (.int vi3), .val (.ref b4)] [(.int z15_S0)]))
      exact own_retZ X16 hx Bd.notSynchronized Bd.returns (hb hby at_122) (by rw [hz15_S0]; (repeat' split); all_goals first | exact Or.inl rfl | exact Or.inr rfl) (show Q0 n0 _ _ _ from ⟨congrArg (fun z => some (Value.int z)) (own_law_1 (p1 := p1) (p2 := p2) (p3 := p3) (p4 := p4) (p5 := p5) he1 he3 he13 hz15_S0 hc75_11), N16⟩) (by decide) (by decide)
    by_cases hc89_14 : vi13 = (0 : Int32)
    · refine own_go (fun t_ k => XS.ifYes X12.here hx rfl (pc0 := 89) (pc' := 121) rfl (hb hby at_89) rfl ((if0 _ _).trans (teq hc89_14).1) (by decide) (by decide) k) ?_
      show WP p e below _ (T12.setTop (mkF m 121 #[.val (.int p1), .val (.int p2), .val (.int p3), .val (.int p4), .val (.int p5), .val (.int (0 : Int32)), .val (.int vi3), .val (.ref b4)] []))
      refine own_go (fun t_ k => XS.iconst X12.here hx rfl (hb hby at_121) k) ?_
      show WP p e below _ (T12.setTop (mkF m 122 #[.val (.int p1), .val (.int p2), .val (.int p3), .val (.int p4), .val (.int p5), .val (.int (0 : Int32)), .val (.int vi3), .val (.ref b4)] [(.int (0 : Int32))]))
      exact J16 T12 _ X12 N12 e12 _ (by rw [if_pos hc89_14])
    · refine own_go (fun t_ k => XS.ifNo X12.here hx rfl (hb hby at_89) rfl ((if0 _ _).trans (feq hc89_14).1) k) ?_
      show WP p e below _ (T12.setTop (mkF m 92 #[.val (.int p1), .val (.int p2), .val (.int p3), .val (.int p4), .val (.int p5), .val (.int (0 : Int32)), .val (.int vi3), .val (.ref b4)] []))
      refine own_go (fun t_ k => XS.aload X12.here hx rfl (hb hby at_92) rfl rfl k) ?_
      show WP p e below _ (T12.setTop (mkF m 94 #[.val (.int p1), .val (.int p2), .val (.int p3), .val (.int p4), .val (.int p5), .val (.int (0 : Int32)), .val (.int vi3), .val (.ref b4)] [(.ref b4)]))
      refine own_go (fun t_ k => XS.iconst X12.here hx rfl (hb hby at_94) k) ?_
      show WP p e below _ (T12.setTop (mkF m 95 #[.val (.int p1), .val (.int p2), .val (.int p3), .val (.int p4), .val (.int p5), .val (.int (0 : Int32)), .val (.int vi3), .val (.ref b4)] [(.int (1 : Int32)), (.ref b4)]))
      refine own_go (fun t_ k => XS.iload X12.here hx rfl (hb hby at_95) rfl k) ?_
      show WP p e below _ (T12.setTop (mkF m 97 #[.val (.int p1), .val (.int p2), .val (.int p3), .val (.int p4), .val (.int p5), .val (.int (0 : Int32)), .val (.int vi3), .val (.ref b4)] [(.int vi3), (.int (1 : Int32)), (.ref b4)]))
      refine own_go (fun t_ k => XS.iloadN X12.here hx rfl (hb hby at_97) rfl k) ?_
      show WP p e below _ (T12.setTop (mkF m 98 #[.val (.int p1), .val (.int p2), .val (.int p3), .val (.int p4), .val (.int p5), .val (.int (0 : Int32)), .val (.int vi3), .val (.ref b4)] [(.int p4), (.int vi3), (.int (1 : Int32)), (.ref b4)]))
      obtain ⟨_, _, ⟨T17, L17, k17, n17⟩, -, X17, ⟨Lc17, hQ17, l17, y17, z17⟩, st17⟩ := Jvm.LawKit.callS X12 hx (y := (⟨"com/example/prefold/prefold/passes/IntListTruncatePinLaw", "kept", "(Lcom/example/prefold/prefold/passes/IntList;III)Z"⟩ : MethodName)) hown (mvT hZ (hw _ (List.mem_of_getElem? (i := 33) rfl))) (mvT hZ (hw _ (List.mem_of_getElem? (i := 34) rfl))) (mvT hZ (hw _ (List.mem_of_getElem? (i := 35) rfl))) (mvT hZ (hw _ (List.mem_of_getElem? (i := 36) rfl))) (by decide) (backOf (W := 0) (rm_kept l Z a0 hw [] b4 (1 : Int32) vi3 p4 t5 kk5 vi3 ([] : List Int32) T9.heap n0 P9 (by decide) (by decide)) hZ (hw _ (List.mem_of_getElem? (i := 36) rfl)) (hw _ (List.mem_of_getElem? (i := 35) rfl)) (by decide) (by decide)) (g := (mkF m 98 #[.val (.int p1), .val (.int p2), .val (.int p3), .val (.int p4), .val (.int p5), .val (.int (0 : Int32)), .val (.int vi3), .val (.ref b4)] [(.int p4), (.int vi3), (.int (1 : Int32)), (.ref b4)])) rfl (by rw [hml]; rfl) (argsL := [(.ref b4), (.int (1 : Int32)), (.int vi3), (.int p4)]) (rest := []) (lenOf pd_6 rfl) rfl (by show 2 * 0 + _ ≤ _; exact Nat.le_of_eq rfl) (hb hby at_98) (fun _ _ => ⟨rfl, e12, (by decide : 2 + 0 ≤ _), (by decide : 6 + 0 ≤ _)⟩)
      dsimp only [Pt.U, Pt.locs, Pt.cells, Pt.slots] at X17 l17 y17 z17 st17 hQ17
      subst l17 y17 z17
      obtain ⟨rfl, N17q, e17⟩ := hQ17
      have N17 := Fr.app N12 N17q
      replace X17 : Stand p l e room_1 s m _ below meth c T17 _ 2 6 := X17
      refine own_go st17 ?_
      show WP p e below _ (T17.setTop (mkF m 101 #[.val (.int p1), .val (.int p2), .val (.int p3), .val (.int p4), .val (.int p5), .val (.int (0 : Int32)), .val (.int vi3), .val (.ref b4)] [(.int (f7 (1 : Int32) vi3 p4 ([] : List Int32)))]))
      by_cases hc101_18 : (f7 (1 : Int32) vi3 p4 ([] : List Int32)) = (0 : Int32)
      · refine own_go (fun t_ k => XS.ifYes X17.here hx rfl (pc0 := 101) (pc' := 121) rfl (hb hby at_101) rfl ((if0 _ _).trans (teq hc101_18).1) (by decide) (by decide) k) ?_
        show WP p e below _ (T17.setTop (mkF m 121 #[.val (.int p1), .val (.int p2), .val (.int p3), .val (.int p4), .val (.int p5), .val (.int (0 : Int32)), .val (.int vi3), .val (.ref b4)] []))
        refine own_go (fun t_ k => XS.iconst X17.here hx rfl (hb hby at_121) k) ?_
        show WP p e below _ (T17.setTop (mkF m 122 #[.val (.int p1), .val (.int p2), .val (.int p3), .val (.int p4), .val (.int p5), .val (.int (0 : Int32)), .val (.int vi3), .val (.ref b4)] [(.int (0 : Int32))]))
        exact J16 T17 _ X17 N17 e17 _ (by rw [if_neg hc89_14, if_pos hc101_18])
      · refine own_go (fun t_ k => XS.ifNo X17.here hx rfl (hb hby at_101) rfl ((if0 _ _).trans (feq hc101_18).1) k) ?_
        show WP p e below _ (T17.setTop (mkF m 104 #[.val (.int p1), .val (.int p2), .val (.int p3), .val (.int p4), .val (.int p5), .val (.int (0 : Int32)), .val (.int vi3), .val (.ref b4)] []))
        refine own_go (fun t_ k => XS.aload X17.here hx rfl (hb hby at_104) rfl rfl k) ?_
        show WP p e below _ (T17.setTop (mkF m 106 #[.val (.int p1), .val (.int p2), .val (.int p3), .val (.int p4), .val (.int p5), .val (.int (0 : Int32)), .val (.int vi3), .val (.ref b4)] [(.ref b4)]))
        refine own_go (fun t_ k => XS.iconst X17.here hx rfl (hb hby at_106) k) ?_
        show WP p e below _ (T17.setTop (mkF m 107 #[.val (.int p1), .val (.int p2), .val (.int p3), .val (.int p4), .val (.int p5), .val (.int (0 : Int32)), .val (.int vi3), .val (.ref b4)] [(.int (2 : Int32)), (.ref b4)]))
        refine own_go (fun t_ k => XS.iload X17.here hx rfl (hb hby at_107) rfl k) ?_
        show WP p e below _ (T17.setTop (mkF m 109 #[.val (.int p1), .val (.int p2), .val (.int p3), .val (.int p4), .val (.int p5), .val (.int (0 : Int32)), .val (.int vi3), .val (.ref b4)] [(.int vi3), (.int (2 : Int32)), (.ref b4)]))
        refine own_go (fun t_ k => XS.iload X17.here hx rfl (hb hby at_109) rfl k) ?_
        show WP p e below _ (T17.setTop (mkF m 111 #[.val (.int p1), .val (.int p2), .val (.int p3), .val (.int p4), .val (.int p5), .val (.int (0 : Int32)), .val (.int vi3), .val (.ref b4)] [(.int p5), (.int vi3), (.int (2 : Int32)), (.ref b4)]))
        obtain ⟨_, _, ⟨T19, L19, k19, n19⟩, -, X19, ⟨Lc19, hQ19, l19, y19, z19⟩, st19⟩ := Jvm.LawKit.callS X17 hx (y := (⟨"com/example/prefold/prefold/passes/IntListTruncatePinLaw", "kept", "(Lcom/example/prefold/prefold/passes/IntList;III)Z"⟩ : MethodName)) hown (mvT hZ (hw _ (List.mem_of_getElem? (i := 33) rfl))) (mvT hZ (hw _ (List.mem_of_getElem? (i := 34) rfl))) (mvT hZ (hw _ (List.mem_of_getElem? (i := 35) rfl))) (mvT hZ (hw _ (List.mem_of_getElem? (i := 36) rfl))) (by decide) (backOf (W := 0) (rm_kept l Z a0 hw [] b4 (2 : Int32) vi3 p5 t5 kk5 vi3 ([] : List Int32) T9.heap n0 P9 (by decide) (by decide)) hZ (hw _ (List.mem_of_getElem? (i := 36) rfl)) (hw _ (List.mem_of_getElem? (i := 35) rfl)) (by decide) (by decide)) (g := (mkF m 111 #[.val (.int p1), .val (.int p2), .val (.int p3), .val (.int p4), .val (.int p5), .val (.int (0 : Int32)), .val (.int vi3), .val (.ref b4)] [(.int p5), (.int vi3), (.int (2 : Int32)), (.ref b4)])) rfl (by rw [hml]; rfl) (argsL := [(.ref b4), (.int (2 : Int32)), (.int vi3), (.int p5)]) (rest := []) (lenOf pd_6 rfl) rfl (by show 2 * 0 + _ ≤ _; exact Nat.le_of_eq rfl) (hb hby at_111) (fun _ _ => ⟨rfl, e17, (by decide : 2 + 0 ≤ _), (by decide : 6 + 0 ≤ _)⟩)
        dsimp only [Pt.U, Pt.locs, Pt.cells, Pt.slots] at X19 l19 y19 z19 st19 hQ19
        subst l19 y19 z19
        obtain ⟨rfl, N19q, e19⟩ := hQ19
        have N19 := Fr.app N17 N19q
        replace X19 : Stand p l e room_1 s m _ below meth c T19 _ 2 6 := X19
        refine own_go st19 ?_
        show WP p e below _ (T19.setTop (mkF m 114 #[.val (.int p1), .val (.int p2), .val (.int p3), .val (.int p4), .val (.int p5), .val (.int (0 : Int32)), .val (.int vi3), .val (.ref b4)] [(.int (f7 (2 : Int32) vi3 p5 ([] : List Int32)))]))
        by_cases hc114_20 : (f7 (2 : Int32) vi3 p5 ([] : List Int32)) = (0 : Int32)
        · refine own_go (fun t_ k => XS.ifYes X19.here hx rfl (pc0 := 114) (pc' := 121) rfl (hb hby at_114) rfl ((if0 _ _).trans (teq hc114_20).1) (by decide) (by decide) k) ?_
          show WP p e below _ (T19.setTop (mkF m 121 #[.val (.int p1), .val (.int p2), .val (.int p3), .val (.int p4), .val (.int p5), .val (.int (0 : Int32)), .val (.int vi3), .val (.ref b4)] []))
          refine own_go (fun t_ k => XS.iconst X19.here hx rfl (hb hby at_121) k) ?_
          show WP p e below _ (T19.setTop (mkF m 122 #[.val (.int p1), .val (.int p2), .val (.int p3), .val (.int p4), .val (.int p5), .val (.int (0 : Int32)), .val (.int vi3), .val (.ref b4)] [(.int (0 : Int32))]))
          exact J16 T19 _ X19 N19 e19 _ (by rw [if_neg hc89_14, if_neg hc101_18, if_pos hc114_20])
        · refine own_go (fun t_ k => XS.ifNo X19.here hx rfl (hb hby at_114) rfl ((if0 _ _).trans (feq hc114_20).1) k) ?_
          show WP p e below _ (T19.setTop (mkF m 117 #[.val (.int p1), .val (.int p2), .val (.int p3), .val (.int p4), .val (.int p5), .val (.int (0 : Int32)), .val (.int vi3), .val (.ref b4)] []))
          refine own_go (fun t_ k => XS.iconst X19.here hx rfl (hb hby at_117) k) ?_
          show WP p e below _ (T19.setTop (mkF m 118 #[.val (.int p1), .val (.int p2), .val (.int p3), .val (.int p4), .val (.int p5), .val (.int (0 : Int32)), .val (.int vi3), .val (.ref b4)] [(.int (1 : Int32))]))
          refine own_go (fun t_ k => XS.goto X19.here hx rfl (pc0 := 118) (pc' := 122) rfl (hb hby at_118) (by decide) (by decide) k) ?_
          show WP p e below _ (T19.setTop (mkF m 122 #[.val (.int p1), .val (.int p2), .val (.int p3), .val (.int p4), .val (.int p5), .val (.int (0 : Int32)), .val (.int vi3), .val (.ref b4)] [(.int (1 : Int32))]))
          exact J16 T19 _ X19 N19 e19 _ (by rw [if_neg hc89_14, if_neg hc101_18, if_neg hc114_20])
  · subst hs2
    show WP p e below _ (s₁.setTop (mkF m 5 #[.val (.int p1), .val (.int p2), .val (.int p3), .val (.int p4), .val (.int p5), .val (.int (1 : Int32)), .unset, .unset] []))
    refine own_go (fun t_ k => XS.iloadN X0.here hx rfl (hb hby at_5) rfl k) ?_
    show WP p e below _ (s₁.setTop (mkF m 6 #[.val (.int p1), .val (.int p2), .val (.int p3), .val (.int p4), .val (.int p5), .val (.int (1 : Int32)), .unset, .unset] [(.int p2)]))
    refine own_go (fun t_ k => X0.ldcInt hx hown (mvT hZ (hw _ (List.mem_of_getElem? (i := 0) rfl))) (g := (mkF m 6 #[.val (.int p1), .val (.int p2), .val (.int p3), .val (.int p4), .val (.int p5), .val (.int (1 : Int32)), .unset, .unset] [(.int p2)])) rfl (hb hby at_6) _ k) ?_
    show WP p e below _ (s₁.setTop (mkF m 8 #[.val (.int p1), .val (.int p2), .val (.int p3), .val (.int p4), .val (.int p5), .val (.int (1 : Int32)), .unset, .unset] [(.int (2147483647 : Int32)), (.int p2)]))
    refine own_go (fun t_ k => XS.iand X0.here hx rfl (hb hby at_8) rfl k) ?_
    show WP p e below _ (s₁.setTop (mkF m 9 #[.val (.int p1), .val (.int p2), .val (.int p3), .val (.int p4), .val (.int p5), .val (.int (1 : Int32)), .unset, .unset] [(.int (p2 &&& (2147483647 : Int32)))]))
    refine own_go (fun t_ k => XS.iload X0.here hx rfl (hb hby at_9) rfl k) ?_
    show WP p e below _ (s₁.setTop (mkF m 11 #[.val (.int p1), .val (.int p2), .val (.int p3), .val (.int p4), .val (.int p5), .val (.int (1 : Int32)), .unset, .unset] [(.int (1 : Int32)), (.int (p2 &&& (2147483647 : Int32)))]))
    refine own_go (fun t_ k => XS.iconst X0.here hx rfl (hb hby at_11) k) ?_
    show WP p e below _ (s₁.setTop (mkF m 12 #[.val (.int p1), .val (.int p2), .val (.int p3), .val (.int p4), .val (.int p5), .val (.int (1 : Int32)), .unset, .unset] [(.int (1 : Int32)), (.int (1 : Int32)), (.int (p2 &&& (2147483647 : Int32)))]))
    refine own_go (fun t_ k => XS.iadd X0.here hx rfl (hb hby at_12) rfl k) ?_
    show WP p e below _ (s₁.setTop (mkF m 13 #[.val (.int p1), .val (.int p2), .val (.int p3), .val (.int p4), .val (.int p5), .val (.int (1 : Int32)), .unset, .unset] [(.int (2 : Int32)), (.int (p2 &&& (2147483647 : Int32)))]))
    refine own_go (fun t_ k => iremM X0 hx rfl (hb hby at_13) rfl (by decide) k) ?_
    show WP p e below _ (s₁.setTop (mkF m 14 #[.val (.int p1), .val (.int p2), .val (.int p3), .val (.int p4), .val (.int p5), .val (.int (1 : Int32)), .unset, .unset] [(.int ((p2 &&& (2147483647 : Int32)) % (2 : Int32)))]))
    refine own_go (fun t_ k => XS.istore X0.here hx rfl (hb hby at_14) rfl (l' := #[.val (.int p1), .val (.int p2), .val (.int p3), .val (.int p4), .val (.int p5), .val (.int (1 : Int32)), .val (.int ((p2 &&& (2147483647 : Int32)) % (2 : Int32))), .unset]) rfl k) ?_
    show WP p e below _ (s₁.setTop (mkF m 16 #[.val (.int p1), .val (.int p2), .val (.int p3), .val (.int p4), .val (.int p5), .val (.int (1 : Int32)), .val (.int ((p2 &&& (2147483647 : Int32)) % (2 : Int32))), .unset] []))
    generalize he21 : ((p2 &&& (2147483647 : Int32)) % (2 : Int32)) = vi21
    show WP p e below _ (s₁.setTop (mkF m 16 #[.val (.int p1), .val (.int p2), .val (.int p3), .val (.int p4), .val (.int p5), .val (.int (1 : Int32)), .val (.int vi21), .unset] []))
    obtain ⟨T22, h22, X22, e22, E22, A22, D22, -, st22⟩ := newO X0 hx hZ hown (hw _ (List.mem_of_getElem? (i := 1) rfl)) (hw _ (List.mem_of_getElem? (i := 2) rfl)) (hw _ (List.mem_of_getElem? (i := 3) rfl)) e0 (g := (mkF m 16 #[.val (.int p1), .val (.int p2), .val (.int p3), .val (.int p4), .val (.int p5), .val (.int (1 : Int32)), .val (.int vi21), .unset] [])) rfl (hb hby at_16) (by decide) (by decide)
    obtain ⟨b22, g22⟩ : ∃ z, z = Array.size h0 := ⟨_, rfl⟩
    rw [← g22] at A22 D22 st22
    refine own_go st22 ?_
    have g_b22 : n0 ≤ b22 := Nat.le_trans (Nat.le_trans Z0 (Keep.refl h0 []).1) (Nat.le_of_eq g22.symm)
    have sz_b22 : h0.size ≤ b22 := Nat.le_trans (Keep.refl h0 []).1 (Nat.le_of_eq g22.symm)
    have K22 : Keep h0 h22 [] := (Keep.refl h0 []).ext E22
    have F22_values : Fld Z h22 b22 "com/example/prefold/prefold/passes/IntList" "values" "[I" .null := D22 (Or.inl (hw _ (List.mem_of_getElem? (i := 12) rfl))) (ty := (.array .int)) (by decide)
    have F22_size : Fld Z h22 b22 "com/example/prefold/prefold/passes/IntList" "size" "I" (.int (0 : Int32)) := D22 (Or.inl (hw _ (List.mem_of_getElem? (i := 19) rfl))) (ty := .int) (by decide)
    show WP p e below _ (T22.setTop (mkF m 19 #[.val (.int p1), .val (.int p2), .val (.int p3), .val (.int p4), .val (.int p5), .val (.int (1 : Int32)), .val (.int vi21), .unset] [(.ref b22)]))
    refine own_go (fun t_ k => XS.dup X22.here hx rfl (hb hby at_19) rfl rfl k) ?_
    show WP p e below _ (T22.setTop (mkF m 20 #[.val (.int p1), .val (.int p2), .val (.int p3), .val (.int p4), .val (.int p5), .val (.int (1 : Int32)), .val (.int vi21), .unset] [(.ref b22), (.ref b22)]))
    obtain ⟨_, _, ⟨T23, L23, k23, n23⟩, -, X23, ⟨Lc23, hQ23, l23, y23, z23⟩, st23⟩ := X22.specialBack hx (y := (⟨"com/example/prefold/prefold/passes/IntList", "<init>", "()V"⟩ : MethodName)) rfl hown (mvT hZ (hw _ (List.mem_of_getElem? (i := 4) rfl))) (mvT hZ (hw _ (List.mem_of_getElem? (i := 5) rfl))) (mvT hZ (hw _ (List.mem_of_getElem? (i := 6) rfl))) (by decide) (backOf (W := 1) (rm_i0 l Z a0 hw [] b22 h22 n0 (Nat.le_trans Z0 K22.1) A22 g_b22 F22_values F22_size) hZ (hw _ (List.mem_of_getElem? (i := 6) rfl)) (hw _ (List.mem_of_getElem? (i := 3) rfl)) (by decide) (by decide)) (g := (mkF m 20 #[.val (.int p1), .val (.int p2), .val (.int p3), .val (.int p4), .val (.int p5), .val (.int (1 : Int32)), .val (.int vi21), .unset] [(.ref b22), (.ref b22)])) rfl (by rw [hml]; rfl) (Steps.refl _) (a := b22) (argsL := []) (rest := [(.ref b22)]) (lenOf pd_3 rfl) rfl (by show 2 * 0 + _ ≤ _; exact Nat.le_of_eq rfl) (hb hby at_20) (fun _ _ => ⟨rfl, e22, (by decide : 1 + 1 ≤ _), (by decide : 2 + 4 ≤ _)⟩)
    dsimp only [Pt.U, Pt.locs, Pt.cells, Pt.slots] at X23 l23 y23 z23 st23 hQ23
    subst l23 y23 z23
    obtain ⟨rfl, N23q, K23c, t23, kk23, gt23, st23', P23⟩ := hQ23
    have N23 := Fr.app N0 N23q
    replace X23 : Stand p l e room_1 s m _ below meth c T23 _ 2 6 := X23
    refine own_go (fun t_ k => st23.trans k) ?_
    have K23 : Keep h0 T23.heap [] := K22.trans K23c (allS (Or.inr sz_b22) all0)
    have szt23 : h0.size ≤ t23 := Nat.le_trans K22.1 st23'
    show WP p e below _ (T23.setTop (mkF m 23 #[.val (.int p1), .val (.int p2), .val (.int p3), .val (.int p4), .val (.int p5), .val (.int (1 : Int32)), .val (.int vi21), .unset] [(.ref b22)]))
    refine own_go (fun t_ k => XS.astore X23.here hx rfl (hb hby at_23) rfl rfl (l' := #[.val (.int p1), .val (.int p2), .val (.int p3), .val (.int p4), .val (.int p5), .val (.int (1 : Int32)), .val (.int vi21), .val (.ref b22)]) rfl k) ?_
    show WP p e below _ (T23.setTop (mkF m 25 #[.val (.int p1), .val (.int p2), .val (.int p3), .val (.int p4), .val (.int p5), .val (.int (1 : Int32)), .val (.int vi21), .val (.ref b22)] []))
    refine own_go (fun t_ k => XS.iload X23.here hx rfl (hb hby at_25) rfl k) ?_
    show WP p e below _ (T23.setTop (mkF m 27 #[.val (.int p1), .val (.int p2), .val (.int p3), .val (.int p4), .val (.int p5), .val (.int (1 : Int32)), .val (.int vi21), .val (.ref b22)] [(.int (1 : Int32))]))
    have hc27_24 : ((0 : Int32) < (1 : Int32)) := by decide
    refine own_go (fun t_ k => XS.ifNo X23.here hx rfl (hb hby at_27) rfl ((if0 _ _).trans (tlt hc27_24).2.2.2) k) ?_
    show WP p e below _ (T23.setTop (mkF m 30 #[.val (.int p1), .val (.int p2), .val (.int p3), .val (.int p4), .val (.int p5), .val (.int (1 : Int32)), .val (.int vi21), .val (.ref b22)] []))
    refine own_go (fun t_ k => XS.aload X23.here hx rfl (hb hby at_30) rfl rfl k) ?_
    show WP p e below _ (T23.setTop (mkF m 32 #[.val (.int p1), .val (.int p2), .val (.int p3), .val (.int p4), .val (.int p5), .val (.int (1 : Int32)), .val (.int vi21), .val (.ref b22)] [(.ref b22)]))
    refine own_go (fun t_ k => XS.iloadN X23.here hx rfl (hb hby at_32) rfl k) ?_
    show WP p e below _ (T23.setTop (mkF m 33 #[.val (.int p1), .val (.int p2), .val (.int p3), .val (.int p4), .val (.int p5), .val (.int (1 : Int32)), .val (.int vi21), .val (.ref b22)] [(.int p3), (.ref b22)]))
    obtain ⟨cq25, kq25, q25a, q25b, q25c⟩ := isOf (T := T23) hZ rfl P23.1
    obtain ⟨_, _, ⟨T25, L25, k25, n25⟩, -, X25, ⟨Lc25, hQ25, l25, y25, z25⟩, st25⟩ := X23.virtualBack hx (y := (⟨"com/example/prefold/prefold/passes/IntList", "add", "(I)V"⟩ : MethodName)) (z := (⟨"com/example/prefold/prefold/passes/IntList", "add", "(I)V"⟩ : MethodName)) hown (mvT hZ (hw _ (List.mem_of_getElem? (i := 37) rfl))) (mvT hZ (hw _ (List.mem_of_getElem? (i := 38) rfl))) (notFace_of_selects (args := #[]) (mvT hZ (hw _ (List.mem_of_getElem? (i := 40) rfl)))) (mvT hZ (hw _ (List.mem_of_getElem? (i := 40) rfl))) (mvT hZ (hw _ (List.mem_of_getElem? (i := 39) rfl))) (by decide) (backOf (W := 0) (rm_add l Z a0 hw [] b22 p3 t23 kk23 (0 : Int32) ([] : List Int32) T23.heap n0 P23 g_b22 gt23 (by first | decide | (simp; done)) (by first | rfl | decide)) hZ (hw _ (List.mem_of_getElem? (i := 41) rfl)) (hw _ (List.mem_of_getElem? (i := 3) rfl)) (by decide) (by decide)) q25a q25c (g := (mkF m 33 #[.val (.int p1), .val (.int p2), .val (.int p3), .val (.int p4), .val (.int p5), .val (.int (1 : Int32)), .val (.int vi21), .val (.ref b22)] [(.int p3), (.ref b22)])) rfl (by rw [hml]; rfl) (Steps.refl _) (argsL := [(.int p3)]) (rest := []) (lenOf pd_4 rfl) rfl (by show 2 * 0 + _ ≤ _; exact Nat.le_of_eq rfl) (hb hby at_33) (fun _ _ => ⟨rfl, rfl, (by decide : 2 + 0 ≤ _), (by decide : 6 + 0 ≤ _)⟩)
    dsimp only [Pt.U, Pt.locs, Pt.cells, Pt.slots] at X25 l25 y25 z25 st25 hQ25
    subst l25 y25 z25
    obtain ⟨rfl, N25q, K25c, P25⟩ := hQ25
    have N25 := Fr.app N23 N25q
    replace X25 : Stand p l e room_1 s m _ below meth c T25 _ 2 6 := X25
    refine own_go (fun t_ k => st25.trans k) ?_
    have K25 : Keep h0 T25.heap [] := K23.trans K25c (allS (Or.inr sz_b22) (allS (Or.inr szt23) all0))
    replace P25 : IL Z T25.heap b22 t23 kk23 (1 : Int32) [p3] := P25
    show WP p e below _ (T25.setTop (mkF m 36 #[.val (.int p1), .val (.int p2), .val (.int p3), .val (.int p4), .val (.int p5), .val (.int (1 : Int32)), .val (.int vi21), .val (.ref b22)] []))
    refine own_go (fun t_ k => XS.iload X25.here hx rfl (hb hby at_36) rfl k) ?_
    show WP p e below _ (T25.setTop (mkF m 38 #[.val (.int p1), .val (.int p2), .val (.int p3), .val (.int p4), .val (.int p5), .val (.int (1 : Int32)), .val (.int vi21), .val (.ref b22)] [(.int (1 : Int32))]))
    refine own_go (fun t_ k => XS.iconst X25.here hx rfl (hb hby at_38) k) ?_
    show WP p e below _ (T25.setTop (mkF m 39 #[.val (.int p1), .val (.int p2), .val (.int p3), .val (.int p4), .val (.int p5), .val (.int (1 : Int32)), .val (.int vi21), .val (.ref b22)] [(.int (1 : Int32)), (.int (1 : Int32))]))
    have hc39_26 : ¬ ((1 : Int32) < (1 : Int32)) := by decide
    refine own_go (fun t_ k => XS.icmpYes X25.here hx rfl (pc0 := 39) (pc' := 48) rfl (hb hby at_39) rfl (flt hc39_26).2.2.2 (by decide) (by decide) k) ?_
    show WP p e below _ (T25.setTop (mkF m 48 #[.val (.int p1), .val (.int p2), .val (.int p3), .val (.int p4), .val (.int p5), .val (.int (1 : Int32)), .val (.int vi21), .val (.ref b22)] []))
    refine own_go (fun t_ k => XS.iload X25.here hx rfl (hb hby at_48) rfl k) ?_
    show WP p e below _ (T25.setTop (mkF m 50 #[.val (.int p1), .val (.int p2), .val (.int p3), .val (.int p4), .val (.int p5), .val (.int (1 : Int32)), .val (.int vi21), .val (.ref b22)] [(.int (1 : Int32))]))
    refine own_go (fun t_ k => XS.iconst X25.here hx rfl (hb hby at_50) k) ?_
    show WP p e below _ (T25.setTop (mkF m 51 #[.val (.int p1), .val (.int p2), .val (.int p3), .val (.int p4), .val (.int p5), .val (.int (1 : Int32)), .val (.int vi21), .val (.ref b22)] [(.int (2 : Int32)), (.int (1 : Int32))]))
    have hc51_27 : ¬ ((2 : Int32) < (1 : Int32)) := by decide
    refine own_go (fun t_ k => XS.icmpYes X25.here hx rfl (pc0 := 51) (pc' := 61) rfl (hb hby at_51) rfl (flt hc51_27).2.2.2 (by decide) (by decide) k) ?_
    show WP p e below _ (T25.setTop (mkF m 61 #[.val (.int p1), .val (.int p2), .val (.int p3), .val (.int p4), .val (.int p5), .val (.int (1 : Int32)), .val (.int vi21), .val (.ref b22)] []))
    refine own_go (fun t_ k => XS.aload X25.here hx rfl (hb hby at_61) rfl rfl k) ?_
    show WP p e below _ (T25.setTop (mkF m 63 #[.val (.int p1), .val (.int p2), .val (.int p3), .val (.int p4), .val (.int p5), .val (.int (1 : Int32)), .val (.int vi21), .val (.ref b22)] [(.ref b22)]))
    refine own_go (fun t_ k => XS.iload X25.here hx rfl (hb hby at_63) rfl k) ?_
    show WP p e below _ (T25.setTop (mkF m 65 #[.val (.int p1), .val (.int p2), .val (.int p3), .val (.int p4), .val (.int p5), .val (.int (1 : Int32)), .val (.int vi21), .val (.ref b22)] [(.int vi21), (.ref b22)]))
    obtain ⟨cq28, kq28, q28a, q28b, q28c⟩ := isOf (T := T25) hZ rfl P25.1
    obtain ⟨_, _, ⟨T28, L28, k28, n28⟩, -, X28, ⟨Lc28, hQ28, l28, y28, z28⟩, st28⟩ := X25.virtualBack hx (y := (⟨"com/example/prefold/prefold/passes/IntList", "truncate", "(I)V"⟩ : MethodName)) (z := (⟨"com/example/prefold/prefold/passes/IntList", "truncate", "(I)V"⟩ : MethodName)) hown (mvT hZ (hw _ (List.mem_of_getElem? (i := 13) rfl))) (mvT hZ (hw _ (List.mem_of_getElem? (i := 14) rfl))) (notFace_of_selects (args := #[]) (mvT hZ (hw _ (List.mem_of_getElem? (i := 16) rfl)))) (mvT hZ (hw _ (List.mem_of_getElem? (i := 16) rfl))) (mvT hZ (hw _ (List.mem_of_getElem? (i := 15) rfl))) (by decide) (backOf (W := 0) (rm_tr l Z a0 hw [] b22 vi21 t23 kk23 (1 : Int32) [p3] T25.heap n0 P25 g_b22 (by have b := own_rem 2 2 rfl (by decide) he21; have o : (0 : Int32).toInt = 0 := rfl; rw [Int32.lt_iff_toInt_lt]; omega) (by have b := own_rem 2 2 rfl (by decide) he21; have o : ((1 : Int32) + 1).toInt = 2 := rfl; rw [Int32.lt_iff_toInt_lt]; omega)) hZ (hw _ (List.mem_of_getElem? (i := 17) rfl)) (hw _ (List.mem_of_getElem? (i := 3) rfl)) (by decide) (by decide)) q28a q28c (g := (mkF m 65 #[.val (.int p1), .val (.int p2), .val (.int p3), .val (.int p4), .val (.int p5), .val (.int (1 : Int32)), .val (.int vi21), .val (.ref b22)] [(.int vi21), (.ref b22)])) rfl (by rw [hml]; rfl) (Steps.refl _) (argsL := [(.int vi21)]) (rest := []) (lenOf pd_4 rfl) rfl (by show 2 * 0 + _ ≤ _; exact Nat.le_of_eq rfl) (hb hby at_65) (fun _ _ => ⟨rfl, rfl, (by decide : 2 + 0 ≤ _), (by decide : 6 + 0 ≤ _)⟩)
    dsimp only [Pt.U, Pt.locs, Pt.cells, Pt.slots] at X28 l28 y28 z28 st28 hQ28
    subst l28 y28 z28
    obtain ⟨rfl, N28q, K28c, P28⟩ := hQ28
    have N28 := Fr.app N25 N28q
    replace X28 : Stand p l e room_1 s m _ below meth c T28 _ 2 6 := X28
    refine own_go (fun t_ k => st28.trans k) ?_
    have K28 : Keep h0 T28.heap [] := K25.trans K28c (allS (Or.inr sz_b22) all0)
    show WP p e below _ (T28.setTop (mkF m 68 #[.val (.int p1), .val (.int p2), .val (.int p3), .val (.int p4), .val (.int p5), .val (.int (1 : Int32)), .val (.int vi21), .val (.ref b22)] []))
    refine own_go (fun t_ k => XS.aload X28.here hx rfl (hb hby at_68) rfl rfl k) ?_
    show WP p e below _ (T28.setTop (mkF m 70 #[.val (.int p1), .val (.int p2), .val (.int p3), .val (.int p4), .val (.int p5), .val (.int (1 : Int32)), .val (.int vi21), .val (.ref b22)] [(.ref b22)]))
    obtain ⟨cq29, kq29, q29a, q29b, q29c⟩ := isOf (T := T28) hZ rfl P28.1
    obtain ⟨_, _, ⟨T29, L29, k29, n29⟩, -, X29, ⟨Lc29, hQ29, l29, y29, z29⟩, st29⟩ := X28.virtualBack hx (y := (⟨"com/example/prefold/prefold/passes/IntList", "size", "()I"⟩ : MethodName)) (z := (⟨"com/example/prefold/prefold/passes/IntList", "size", "()I"⟩ : MethodName)) hown (mvT hZ (hw _ (List.mem_of_getElem? (i := 28) rfl))) (mvT hZ (hw _ (List.mem_of_getElem? (i := 29) rfl))) (notFace_of_selects (args := #[]) (mvT hZ (hw _ (List.mem_of_getElem? (i := 31) rfl)))) (mvT hZ (hw _ (List.mem_of_getElem? (i := 31) rfl))) (mvT hZ (hw _ (List.mem_of_getElem? (i := 30) rfl))) (by decide) (backOf (W := 0) (rm_size l Z a0 hw [] b22 t23 kk23 vi21 [p3] T28.heap n0 P28) hZ (hw _ (List.mem_of_getElem? (i := 32) rfl)) (hw _ (List.mem_of_getElem? (i := 3) rfl)) (by decide) (by decide)) q29a q29c (g := (mkF m 70 #[.val (.int p1), .val (.int p2), .val (.int p3), .val (.int p4), .val (.int p5), .val (.int (1 : Int32)), .val (.int vi21), .val (.ref b22)] [(.ref b22)])) rfl (by rw [hml]; rfl) (Steps.refl _) (argsL := []) (rest := []) (lenOf pd_5 rfl) rfl (by show 2 * 0 + _ ≤ _; exact Nat.le_of_eq rfl) (hb hby at_70) (fun _ _ => ⟨rfl, rfl, (by decide : 2 + 0 ≤ _), (by decide : 6 + 0 ≤ _)⟩)
    dsimp only [Pt.U, Pt.locs, Pt.cells, Pt.slots] at X29 l29 y29 z29 st29 hQ29
    subst l29 y29 z29
    obtain ⟨rfl, N29q, e29⟩ := hQ29
    have N29 := Fr.app N28 N29q
    replace X29 : Stand p l e room_1 s m _ below meth c T29 _ 2 6 := X29
    refine own_go (fun t_ k => st29.trans k) ?_
    show WP p e below _ (T29.setTop (mkF m 73 #[.val (.int p1), .val (.int p2), .val (.int p3), .val (.int p4), .val (.int p5), .val (.int (1 : Int32)), .val (.int vi21), .val (.ref b22)] [(.int vi21)]))
    refine own_go (fun t_ k => XS.iload X29.here hx rfl (hb hby at_73) rfl k) ?_
    show WP p e below _ (T29.setTop (mkF m 75 #[.val (.int p1), .val (.int p2), .val (.int p3), .val (.int p4), .val (.int p5), .val (.int (1 : Int32)), .val (.int vi21), .val (.ref b22)] [(.int vi21), (.int vi21)]))
    have hc75_30 : (vi21 = vi21) := rfl
    refine own_go (fun t_ k => XS.icmpYes X29.here hx rfl (pc0 := 75) (pc' := 80) rfl (hb hby at_75) rfl (teq hc75_30).1 (by decide) (by decide) k) ?_
    show WP p e below _ (T29.setTop (mkF m 80 #[.val (.int p1), .val (.int p2), .val (.int p3), .val (.int p4), .val (.int p5), .val (.int (1 : Int32)), .val (.int vi21), .val (.ref b22)] []))
    refine own_go (fun t_ k => XS.aload X29.here hx rfl (hb hby at_80) rfl rfl k) ?_
    show WP p e below _ (T29.setTop (mkF m 82 #[.val (.int p1), .val (.int p2), .val (.int p3), .val (.int p4), .val (.int p5), .val (.int (1 : Int32)), .val (.int vi21), .val (.ref b22)] [(.ref b22)]))
    refine own_go (fun t_ k => XS.iconst X29.here hx rfl (hb hby at_82) k) ?_
    show WP p e below _ (T29.setTop (mkF m 83 #[.val (.int p1), .val (.int p2), .val (.int p3), .val (.int p4), .val (.int p5), .val (.int (1 : Int32)), .val (.int vi21), .val (.ref b22)] [(.int (0 : Int32)), (.ref b22)]))
    refine own_go (fun t_ k => XS.iload X29.here hx rfl (hb hby at_83) rfl k) ?_
    show WP p e below _ (T29.setTop (mkF m 85 #[.val (.int p1), .val (.int p2), .val (.int p3), .val (.int p4), .val (.int p5), .val (.int (1 : Int32)), .val (.int vi21), .val (.ref b22)] [(.int vi21), (.int (0 : Int32)), (.ref b22)]))
    refine own_go (fun t_ k => XS.iloadN X29.here hx rfl (hb hby at_85) rfl k) ?_
    show WP p e below _ (T29.setTop (mkF m 86 #[.val (.int p1), .val (.int p2), .val (.int p3), .val (.int p4), .val (.int p5), .val (.int (1 : Int32)), .val (.int vi21), .val (.ref b22)] [(.int p3), (.int vi21), (.int (0 : Int32)), (.ref b22)]))
    obtain ⟨_, _, ⟨T31, L31, k31, n31⟩, -, X31, ⟨Lc31, hQ31, l31, y31, z31⟩, st31⟩ := Jvm.LawKit.callS X29 hx (y := (⟨"com/example/prefold/prefold/passes/IntListTruncatePinLaw", "kept", "(Lcom/example/prefold/prefold/passes/IntList;III)Z"⟩ : MethodName)) hown (mvT hZ (hw _ (List.mem_of_getElem? (i := 33) rfl))) (mvT hZ (hw _ (List.mem_of_getElem? (i := 34) rfl))) (mvT hZ (hw _ (List.mem_of_getElem? (i := 35) rfl))) (mvT hZ (hw _ (List.mem_of_getElem? (i := 36) rfl))) (by decide) (backOf (W := 0) (rm_kept l Z a0 hw [] b22 (0 : Int32) vi21 p3 t23 kk23 vi21 [p3] T28.heap n0 P28 (by decide) (by decide)) hZ (hw _ (List.mem_of_getElem? (i := 36) rfl)) (hw _ (List.mem_of_getElem? (i := 35) rfl)) (by decide) (by decide)) (g := (mkF m 86 #[.val (.int p1), .val (.int p2), .val (.int p3), .val (.int p4), .val (.int p5), .val (.int (1 : Int32)), .val (.int vi21), .val (.ref b22)] [(.int p3), (.int vi21), (.int (0 : Int32)), (.ref b22)])) rfl (by rw [hml]; rfl) (argsL := [(.ref b22), (.int (0 : Int32)), (.int vi21), (.int p3)]) (rest := []) (lenOf pd_6 rfl) rfl (by show 2 * 0 + _ ≤ _; exact Nat.le_of_eq rfl) (hb hby at_86) (fun _ _ => ⟨rfl, e29, (by decide : 2 + 0 ≤ _), (by decide : 6 + 0 ≤ _)⟩)
    dsimp only [Pt.U, Pt.locs, Pt.cells, Pt.slots] at X31 l31 y31 z31 st31 hQ31
    subst l31 y31 z31
    obtain ⟨rfl, N31q, e31⟩ := hQ31
    have N31 := Fr.app N29 N31q
    replace X31 : Stand p l e room_1 s m _ below meth c T31 _ 2 6 := X31
    refine own_go st31 ?_
    show WP p e below _ (T31.setTop (mkF m 89 #[.val (.int p1), .val (.int p2), .val (.int p3), .val (.int p4), .val (.int p5), .val (.int (1 : Int32)), .val (.int vi21), .val (.ref b22)] [(.int (f7 (0 : Int32) vi21 p3 [p3]))]))
    generalize he32 : (f7 (0 : Int32) vi21 p3 [p3]) = vi32
    show WP p e below _ (T31.setTop (mkF m 89 #[.val (.int p1), .val (.int p2), .val (.int p3), .val (.int p4), .val (.int p5), .val (.int (1 : Int32)), .val (.int vi21), .val (.ref b22)] [(.int vi32)]))
    have J35 : ∀ (T35 : State) (ls35 : List Loc) (X35 : Stand p l e room_1 s m #[(.int p1), (.int p2), (.int p3), (.int p4), (.int p5)] below meth c T35 ls35 2 6) (N35 : Fr n0 ls35) (e35 : T35.heap = T28.heap) (z34_S0 : Int32) (hz34_S0 : z34_S0 = (if vi32 = (0 : Int32) then (0 : Int32) else (if (f7 (1 : Int32) vi21 p4 [p3]) = (0 : Int32) then (0 : Int32) else (if (f7 (2 : Int32) vi21 p5 [p3]) = (0 : Int32) then (0 : Int32) else (1 : Int32))))), WP p e below (GG (Q0 n0) s room_1.cells room_1.slots) (T35.setTop (mkF m 122 #[.val (.int p1), .val (.int p2), .val (.int p3), .val (.int p4), .val (.int p5), .val (.int (1 : Int32)), .val (.int vi21), .val (.ref b22)] [(.int z34_S0)])) := by
      intro T35 ls35 X35 N35 e35 z34_S0 hz34_S0
      show WP p e below _ (T35.setTop (mkF m 122 #[.val (.int p1), .val (.int p2), .val (.int p3), .val (.int p4), .val (.int p5), .val (.int (1 : Int32)), .val (.int vi21), .val (.ref b22)] [(.int z34_S0)]))
      exact own_retZ X35 hx Bd.notSynchronized Bd.returns (hb hby at_122) (by rw [hz34_S0]; (repeat' split); all_goals first | exact Or.inl rfl | exact Or.inr rfl) (show Q0 n0 _ _ _ from ⟨congrArg (fun z => some (Value.int z)) (own_law_2 (p1 := p1) (p2 := p2) (p3 := p3) (p4 := p4) (p5 := p5) he1 he21 he32 hz34_S0 hc75_30), N35⟩) (by decide) (by decide)
    by_cases hc89_33 : vi32 = (0 : Int32)
    · refine own_go (fun t_ k => XS.ifYes X31.here hx rfl (pc0 := 89) (pc' := 121) rfl (hb hby at_89) rfl ((if0 _ _).trans (teq hc89_33).1) (by decide) (by decide) k) ?_
      show WP p e below _ (T31.setTop (mkF m 121 #[.val (.int p1), .val (.int p2), .val (.int p3), .val (.int p4), .val (.int p5), .val (.int (1 : Int32)), .val (.int vi21), .val (.ref b22)] []))
      refine own_go (fun t_ k => XS.iconst X31.here hx rfl (hb hby at_121) k) ?_
      show WP p e below _ (T31.setTop (mkF m 122 #[.val (.int p1), .val (.int p2), .val (.int p3), .val (.int p4), .val (.int p5), .val (.int (1 : Int32)), .val (.int vi21), .val (.ref b22)] [(.int (0 : Int32))]))
      exact J35 T31 _ X31 N31 e31 _ (by rw [if_pos hc89_33])
    · refine own_go (fun t_ k => XS.ifNo X31.here hx rfl (hb hby at_89) rfl ((if0 _ _).trans (feq hc89_33).1) k) ?_
      show WP p e below _ (T31.setTop (mkF m 92 #[.val (.int p1), .val (.int p2), .val (.int p3), .val (.int p4), .val (.int p5), .val (.int (1 : Int32)), .val (.int vi21), .val (.ref b22)] []))
      refine own_go (fun t_ k => XS.aload X31.here hx rfl (hb hby at_92) rfl rfl k) ?_
      show WP p e below _ (T31.setTop (mkF m 94 #[.val (.int p1), .val (.int p2), .val (.int p3), .val (.int p4), .val (.int p5), .val (.int (1 : Int32)), .val (.int vi21), .val (.ref b22)] [(.ref b22)]))
      refine own_go (fun t_ k => XS.iconst X31.here hx rfl (hb hby at_94) k) ?_
      show WP p e below _ (T31.setTop (mkF m 95 #[.val (.int p1), .val (.int p2), .val (.int p3), .val (.int p4), .val (.int p5), .val (.int (1 : Int32)), .val (.int vi21), .val (.ref b22)] [(.int (1 : Int32)), (.ref b22)]))
      refine own_go (fun t_ k => XS.iload X31.here hx rfl (hb hby at_95) rfl k) ?_
      show WP p e below _ (T31.setTop (mkF m 97 #[.val (.int p1), .val (.int p2), .val (.int p3), .val (.int p4), .val (.int p5), .val (.int (1 : Int32)), .val (.int vi21), .val (.ref b22)] [(.int vi21), (.int (1 : Int32)), (.ref b22)]))
      refine own_go (fun t_ k => XS.iloadN X31.here hx rfl (hb hby at_97) rfl k) ?_
      show WP p e below _ (T31.setTop (mkF m 98 #[.val (.int p1), .val (.int p2), .val (.int p3), .val (.int p4), .val (.int p5), .val (.int (1 : Int32)), .val (.int vi21), .val (.ref b22)] [(.int p4), (.int vi21), (.int (1 : Int32)), (.ref b22)]))
      obtain ⟨_, _, ⟨T36, L36, k36, n36⟩, -, X36, ⟨Lc36, hQ36, l36, y36, z36⟩, st36⟩ := Jvm.LawKit.callS X31 hx (y := (⟨"com/example/prefold/prefold/passes/IntListTruncatePinLaw", "kept", "(Lcom/example/prefold/prefold/passes/IntList;III)Z"⟩ : MethodName)) hown (mvT hZ (hw _ (List.mem_of_getElem? (i := 33) rfl))) (mvT hZ (hw _ (List.mem_of_getElem? (i := 34) rfl))) (mvT hZ (hw _ (List.mem_of_getElem? (i := 35) rfl))) (mvT hZ (hw _ (List.mem_of_getElem? (i := 36) rfl))) (by decide) (backOf (W := 0) (rm_kept l Z a0 hw [] b22 (1 : Int32) vi21 p4 t23 kk23 vi21 [p3] T28.heap n0 P28 (by decide) (by decide)) hZ (hw _ (List.mem_of_getElem? (i := 36) rfl)) (hw _ (List.mem_of_getElem? (i := 35) rfl)) (by decide) (by decide)) (g := (mkF m 98 #[.val (.int p1), .val (.int p2), .val (.int p3), .val (.int p4), .val (.int p5), .val (.int (1 : Int32)), .val (.int vi21), .val (.ref b22)] [(.int p4), (.int vi21), (.int (1 : Int32)), (.ref b22)])) rfl (by rw [hml]; rfl) (argsL := [(.ref b22), (.int (1 : Int32)), (.int vi21), (.int p4)]) (rest := []) (lenOf pd_6 rfl) rfl (by show 2 * 0 + _ ≤ _; exact Nat.le_of_eq rfl) (hb hby at_98) (fun _ _ => ⟨rfl, e31, (by decide : 2 + 0 ≤ _), (by decide : 6 + 0 ≤ _)⟩)
      dsimp only [Pt.U, Pt.locs, Pt.cells, Pt.slots] at X36 l36 y36 z36 st36 hQ36
      subst l36 y36 z36
      obtain ⟨rfl, N36q, e36⟩ := hQ36
      have N36 := Fr.app N31 N36q
      replace X36 : Stand p l e room_1 s m _ below meth c T36 _ 2 6 := X36
      refine own_go st36 ?_
      show WP p e below _ (T36.setTop (mkF m 101 #[.val (.int p1), .val (.int p2), .val (.int p3), .val (.int p4), .val (.int p5), .val (.int (1 : Int32)), .val (.int vi21), .val (.ref b22)] [(.int (f7 (1 : Int32) vi21 p4 [p3]))]))
      by_cases hc101_37 : (f7 (1 : Int32) vi21 p4 [p3]) = (0 : Int32)
      · refine own_go (fun t_ k => XS.ifYes X36.here hx rfl (pc0 := 101) (pc' := 121) rfl (hb hby at_101) rfl ((if0 _ _).trans (teq hc101_37).1) (by decide) (by decide) k) ?_
        show WP p e below _ (T36.setTop (mkF m 121 #[.val (.int p1), .val (.int p2), .val (.int p3), .val (.int p4), .val (.int p5), .val (.int (1 : Int32)), .val (.int vi21), .val (.ref b22)] []))
        refine own_go (fun t_ k => XS.iconst X36.here hx rfl (hb hby at_121) k) ?_
        show WP p e below _ (T36.setTop (mkF m 122 #[.val (.int p1), .val (.int p2), .val (.int p3), .val (.int p4), .val (.int p5), .val (.int (1 : Int32)), .val (.int vi21), .val (.ref b22)] [(.int (0 : Int32))]))
        exact J35 T36 _ X36 N36 e36 _ (by rw [if_neg hc89_33, if_pos hc101_37])
      · refine own_go (fun t_ k => XS.ifNo X36.here hx rfl (hb hby at_101) rfl ((if0 _ _).trans (feq hc101_37).1) k) ?_
        show WP p e below _ (T36.setTop (mkF m 104 #[.val (.int p1), .val (.int p2), .val (.int p3), .val (.int p4), .val (.int p5), .val (.int (1 : Int32)), .val (.int vi21), .val (.ref b22)] []))
        refine own_go (fun t_ k => XS.aload X36.here hx rfl (hb hby at_104) rfl rfl k) ?_
        show WP p e below _ (T36.setTop (mkF m 106 #[.val (.int p1), .val (.int p2), .val (.int p3), .val (.int p4), .val (.int p5), .val (.int (1 : Int32)), .val (.int vi21), .val (.ref b22)] [(.ref b22)]))
        refine own_go (fun t_ k => XS.iconst X36.here hx rfl (hb hby at_106) k) ?_
        show WP p e below _ (T36.setTop (mkF m 107 #[.val (.int p1), .val (.int p2), .val (.int p3), .val (.int p4), .val (.int p5), .val (.int (1 : Int32)), .val (.int vi21), .val (.ref b22)] [(.int (2 : Int32)), (.ref b22)]))
        refine own_go (fun t_ k => XS.iload X36.here hx rfl (hb hby at_107) rfl k) ?_
        show WP p e below _ (T36.setTop (mkF m 109 #[.val (.int p1), .val (.int p2), .val (.int p3), .val (.int p4), .val (.int p5), .val (.int (1 : Int32)), .val (.int vi21), .val (.ref b22)] [(.int vi21), (.int (2 : Int32)), (.ref b22)]))
        refine own_go (fun t_ k => XS.iload X36.here hx rfl (hb hby at_109) rfl k) ?_
        show WP p e below _ (T36.setTop (mkF m 111 #[.val (.int p1), .val (.int p2), .val (.int p3), .val (.int p4), .val (.int p5), .val (.int (1 : Int32)), .val (.int vi21), .val (.ref b22)] [(.int p5), (.int vi21), (.int (2 : Int32)), (.ref b22)]))
        obtain ⟨_, _, ⟨T38, L38, k38, n38⟩, -, X38, ⟨Lc38, hQ38, l38, y38, z38⟩, st38⟩ := Jvm.LawKit.callS X36 hx (y := (⟨"com/example/prefold/prefold/passes/IntListTruncatePinLaw", "kept", "(Lcom/example/prefold/prefold/passes/IntList;III)Z"⟩ : MethodName)) hown (mvT hZ (hw _ (List.mem_of_getElem? (i := 33) rfl))) (mvT hZ (hw _ (List.mem_of_getElem? (i := 34) rfl))) (mvT hZ (hw _ (List.mem_of_getElem? (i := 35) rfl))) (mvT hZ (hw _ (List.mem_of_getElem? (i := 36) rfl))) (by decide) (backOf (W := 0) (rm_kept l Z a0 hw [] b22 (2 : Int32) vi21 p5 t23 kk23 vi21 [p3] T28.heap n0 P28 (by decide) (by decide)) hZ (hw _ (List.mem_of_getElem? (i := 36) rfl)) (hw _ (List.mem_of_getElem? (i := 35) rfl)) (by decide) (by decide)) (g := (mkF m 111 #[.val (.int p1), .val (.int p2), .val (.int p3), .val (.int p4), .val (.int p5), .val (.int (1 : Int32)), .val (.int vi21), .val (.ref b22)] [(.int p5), (.int vi21), (.int (2 : Int32)), (.ref b22)])) rfl (by rw [hml]; rfl) (argsL := [(.ref b22), (.int (2 : Int32)), (.int vi21), (.int p5)]) (rest := []) (lenOf pd_6 rfl) rfl (by show 2 * 0 + _ ≤ _; exact Nat.le_of_eq rfl) (hb hby at_111) (fun _ _ => ⟨rfl, e36, (by decide : 2 + 0 ≤ _), (by decide : 6 + 0 ≤ _)⟩)
        dsimp only [Pt.U, Pt.locs, Pt.cells, Pt.slots] at X38 l38 y38 z38 st38 hQ38
        subst l38 y38 z38
        obtain ⟨rfl, N38q, e38⟩ := hQ38
        have N38 := Fr.app N36 N38q
        replace X38 : Stand p l e room_1 s m _ below meth c T38 _ 2 6 := X38
        refine own_go st38 ?_
        show WP p e below _ (T38.setTop (mkF m 114 #[.val (.int p1), .val (.int p2), .val (.int p3), .val (.int p4), .val (.int p5), .val (.int (1 : Int32)), .val (.int vi21), .val (.ref b22)] [(.int (f7 (2 : Int32) vi21 p5 [p3]))]))
        by_cases hc114_39 : (f7 (2 : Int32) vi21 p5 [p3]) = (0 : Int32)
        · refine own_go (fun t_ k => XS.ifYes X38.here hx rfl (pc0 := 114) (pc' := 121) rfl (hb hby at_114) rfl ((if0 _ _).trans (teq hc114_39).1) (by decide) (by decide) k) ?_
          show WP p e below _ (T38.setTop (mkF m 121 #[.val (.int p1), .val (.int p2), .val (.int p3), .val (.int p4), .val (.int p5), .val (.int (1 : Int32)), .val (.int vi21), .val (.ref b22)] []))
          refine own_go (fun t_ k => XS.iconst X38.here hx rfl (hb hby at_121) k) ?_
          show WP p e below _ (T38.setTop (mkF m 122 #[.val (.int p1), .val (.int p2), .val (.int p3), .val (.int p4), .val (.int p5), .val (.int (1 : Int32)), .val (.int vi21), .val (.ref b22)] [(.int (0 : Int32))]))
          exact J35 T38 _ X38 N38 e38 _ (by rw [if_neg hc89_33, if_neg hc101_37, if_pos hc114_39])
        · refine own_go (fun t_ k => XS.ifNo X38.here hx rfl (hb hby at_114) rfl ((if0 _ _).trans (feq hc114_39).1) k) ?_
          show WP p e below _ (T38.setTop (mkF m 117 #[.val (.int p1), .val (.int p2), .val (.int p3), .val (.int p4), .val (.int p5), .val (.int (1 : Int32)), .val (.int vi21), .val (.ref b22)] []))
          refine own_go (fun t_ k => XS.iconst X38.here hx rfl (hb hby at_117) k) ?_
          show WP p e below _ (T38.setTop (mkF m 118 #[.val (.int p1), .val (.int p2), .val (.int p3), .val (.int p4), .val (.int p5), .val (.int (1 : Int32)), .val (.int vi21), .val (.ref b22)] [(.int (1 : Int32))]))
          refine own_go (fun t_ k => XS.goto X38.here hx rfl (pc0 := 118) (pc' := 122) rfl (hb hby at_118) (by decide) (by decide) k) ?_
          show WP p e below _ (T38.setTop (mkF m 122 #[.val (.int p1), .val (.int p2), .val (.int p3), .val (.int p4), .val (.int p5), .val (.int (1 : Int32)), .val (.int vi21), .val (.ref b22)] [(.int (1 : Int32))]))
          exact J35 T38 _ X38 N38 e38 _ (by rw [if_neg hc89_33, if_neg hc101_37, if_neg hc114_39])
  · subst hs2
    show WP p e below _ (s₁.setTop (mkF m 5 #[.val (.int p1), .val (.int p2), .val (.int p3), .val (.int p4), .val (.int p5), .val (.int (2 : Int32)), .unset, .unset] []))
    refine own_go (fun t_ k => XS.iloadN X0.here hx rfl (hb hby at_5) rfl k) ?_
    show WP p e below _ (s₁.setTop (mkF m 6 #[.val (.int p1), .val (.int p2), .val (.int p3), .val (.int p4), .val (.int p5), .val (.int (2 : Int32)), .unset, .unset] [(.int p2)]))
    refine own_go (fun t_ k => X0.ldcInt hx hown (mvT hZ (hw _ (List.mem_of_getElem? (i := 0) rfl))) (g := (mkF m 6 #[.val (.int p1), .val (.int p2), .val (.int p3), .val (.int p4), .val (.int p5), .val (.int (2 : Int32)), .unset, .unset] [(.int p2)])) rfl (hb hby at_6) _ k) ?_
    show WP p e below _ (s₁.setTop (mkF m 8 #[.val (.int p1), .val (.int p2), .val (.int p3), .val (.int p4), .val (.int p5), .val (.int (2 : Int32)), .unset, .unset] [(.int (2147483647 : Int32)), (.int p2)]))
    refine own_go (fun t_ k => XS.iand X0.here hx rfl (hb hby at_8) rfl k) ?_
    show WP p e below _ (s₁.setTop (mkF m 9 #[.val (.int p1), .val (.int p2), .val (.int p3), .val (.int p4), .val (.int p5), .val (.int (2 : Int32)), .unset, .unset] [(.int (p2 &&& (2147483647 : Int32)))]))
    refine own_go (fun t_ k => XS.iload X0.here hx rfl (hb hby at_9) rfl k) ?_
    show WP p e below _ (s₁.setTop (mkF m 11 #[.val (.int p1), .val (.int p2), .val (.int p3), .val (.int p4), .val (.int p5), .val (.int (2 : Int32)), .unset, .unset] [(.int (2 : Int32)), (.int (p2 &&& (2147483647 : Int32)))]))
    refine own_go (fun t_ k => XS.iconst X0.here hx rfl (hb hby at_11) k) ?_
    show WP p e below _ (s₁.setTop (mkF m 12 #[.val (.int p1), .val (.int p2), .val (.int p3), .val (.int p4), .val (.int p5), .val (.int (2 : Int32)), .unset, .unset] [(.int (1 : Int32)), (.int (2 : Int32)), (.int (p2 &&& (2147483647 : Int32)))]))
    refine own_go (fun t_ k => XS.iadd X0.here hx rfl (hb hby at_12) rfl k) ?_
    show WP p e below _ (s₁.setTop (mkF m 13 #[.val (.int p1), .val (.int p2), .val (.int p3), .val (.int p4), .val (.int p5), .val (.int (2 : Int32)), .unset, .unset] [(.int (3 : Int32)), (.int (p2 &&& (2147483647 : Int32)))]))
    refine own_go (fun t_ k => iremM X0 hx rfl (hb hby at_13) rfl (by decide) k) ?_
    show WP p e below _ (s₁.setTop (mkF m 14 #[.val (.int p1), .val (.int p2), .val (.int p3), .val (.int p4), .val (.int p5), .val (.int (2 : Int32)), .unset, .unset] [(.int ((p2 &&& (2147483647 : Int32)) % (3 : Int32)))]))
    refine own_go (fun t_ k => XS.istore X0.here hx rfl (hb hby at_14) rfl (l' := #[.val (.int p1), .val (.int p2), .val (.int p3), .val (.int p4), .val (.int p5), .val (.int (2 : Int32)), .val (.int ((p2 &&& (2147483647 : Int32)) % (3 : Int32))), .unset]) rfl k) ?_
    show WP p e below _ (s₁.setTop (mkF m 16 #[.val (.int p1), .val (.int p2), .val (.int p3), .val (.int p4), .val (.int p5), .val (.int (2 : Int32)), .val (.int ((p2 &&& (2147483647 : Int32)) % (3 : Int32))), .unset] []))
    generalize he40 : ((p2 &&& (2147483647 : Int32)) % (3 : Int32)) = vi40
    show WP p e below _ (s₁.setTop (mkF m 16 #[.val (.int p1), .val (.int p2), .val (.int p3), .val (.int p4), .val (.int p5), .val (.int (2 : Int32)), .val (.int vi40), .unset] []))
    obtain ⟨T41, h41, X41, e41, E41, A41, D41, -, st41⟩ := newO X0 hx hZ hown (hw _ (List.mem_of_getElem? (i := 1) rfl)) (hw _ (List.mem_of_getElem? (i := 2) rfl)) (hw _ (List.mem_of_getElem? (i := 3) rfl)) e0 (g := (mkF m 16 #[.val (.int p1), .val (.int p2), .val (.int p3), .val (.int p4), .val (.int p5), .val (.int (2 : Int32)), .val (.int vi40), .unset] [])) rfl (hb hby at_16) (by decide) (by decide)
    obtain ⟨b41, g41⟩ : ∃ z, z = Array.size h0 := ⟨_, rfl⟩
    rw [← g41] at A41 D41 st41
    refine own_go st41 ?_
    have g_b41 : n0 ≤ b41 := Nat.le_trans (Nat.le_trans Z0 (Keep.refl h0 []).1) (Nat.le_of_eq g41.symm)
    have sz_b41 : h0.size ≤ b41 := Nat.le_trans (Keep.refl h0 []).1 (Nat.le_of_eq g41.symm)
    have K41 : Keep h0 h41 [] := (Keep.refl h0 []).ext E41
    have F41_values : Fld Z h41 b41 "com/example/prefold/prefold/passes/IntList" "values" "[I" .null := D41 (Or.inl (hw _ (List.mem_of_getElem? (i := 12) rfl))) (ty := (.array .int)) (by decide)
    have F41_size : Fld Z h41 b41 "com/example/prefold/prefold/passes/IntList" "size" "I" (.int (0 : Int32)) := D41 (Or.inl (hw _ (List.mem_of_getElem? (i := 19) rfl))) (ty := .int) (by decide)
    show WP p e below _ (T41.setTop (mkF m 19 #[.val (.int p1), .val (.int p2), .val (.int p3), .val (.int p4), .val (.int p5), .val (.int (2 : Int32)), .val (.int vi40), .unset] [(.ref b41)]))
    refine own_go (fun t_ k => XS.dup X41.here hx rfl (hb hby at_19) rfl rfl k) ?_
    show WP p e below _ (T41.setTop (mkF m 20 #[.val (.int p1), .val (.int p2), .val (.int p3), .val (.int p4), .val (.int p5), .val (.int (2 : Int32)), .val (.int vi40), .unset] [(.ref b41), (.ref b41)]))
    obtain ⟨_, _, ⟨T42, L42, k42, n42⟩, -, X42, ⟨Lc42, hQ42, l42, y42, z42⟩, st42⟩ := X41.specialBack hx (y := (⟨"com/example/prefold/prefold/passes/IntList", "<init>", "()V"⟩ : MethodName)) rfl hown (mvT hZ (hw _ (List.mem_of_getElem? (i := 4) rfl))) (mvT hZ (hw _ (List.mem_of_getElem? (i := 5) rfl))) (mvT hZ (hw _ (List.mem_of_getElem? (i := 6) rfl))) (by decide) (backOf (W := 1) (rm_i0 l Z a0 hw [] b41 h41 n0 (Nat.le_trans Z0 K41.1) A41 g_b41 F41_values F41_size) hZ (hw _ (List.mem_of_getElem? (i := 6) rfl)) (hw _ (List.mem_of_getElem? (i := 3) rfl)) (by decide) (by decide)) (g := (mkF m 20 #[.val (.int p1), .val (.int p2), .val (.int p3), .val (.int p4), .val (.int p5), .val (.int (2 : Int32)), .val (.int vi40), .unset] [(.ref b41), (.ref b41)])) rfl (by rw [hml]; rfl) (Steps.refl _) (a := b41) (argsL := []) (rest := [(.ref b41)]) (lenOf pd_3 rfl) rfl (by show 2 * 0 + _ ≤ _; exact Nat.le_of_eq rfl) (hb hby at_20) (fun _ _ => ⟨rfl, e41, (by decide : 1 + 1 ≤ _), (by decide : 2 + 4 ≤ _)⟩)
    dsimp only [Pt.U, Pt.locs, Pt.cells, Pt.slots] at X42 l42 y42 z42 st42 hQ42
    subst l42 y42 z42
    obtain ⟨rfl, N42q, K42c, t42, kk42, gt42, st42', P42⟩ := hQ42
    have N42 := Fr.app N0 N42q
    replace X42 : Stand p l e room_1 s m _ below meth c T42 _ 2 6 := X42
    refine own_go (fun t_ k => st42.trans k) ?_
    have K42 : Keep h0 T42.heap [] := K41.trans K42c (allS (Or.inr sz_b41) all0)
    have szt42 : h0.size ≤ t42 := Nat.le_trans K41.1 st42'
    show WP p e below _ (T42.setTop (mkF m 23 #[.val (.int p1), .val (.int p2), .val (.int p3), .val (.int p4), .val (.int p5), .val (.int (2 : Int32)), .val (.int vi40), .unset] [(.ref b41)]))
    refine own_go (fun t_ k => XS.astore X42.here hx rfl (hb hby at_23) rfl rfl (l' := #[.val (.int p1), .val (.int p2), .val (.int p3), .val (.int p4), .val (.int p5), .val (.int (2 : Int32)), .val (.int vi40), .val (.ref b41)]) rfl k) ?_
    show WP p e below _ (T42.setTop (mkF m 25 #[.val (.int p1), .val (.int p2), .val (.int p3), .val (.int p4), .val (.int p5), .val (.int (2 : Int32)), .val (.int vi40), .val (.ref b41)] []))
    refine own_go (fun t_ k => XS.iload X42.here hx rfl (hb hby at_25) rfl k) ?_
    show WP p e below _ (T42.setTop (mkF m 27 #[.val (.int p1), .val (.int p2), .val (.int p3), .val (.int p4), .val (.int p5), .val (.int (2 : Int32)), .val (.int vi40), .val (.ref b41)] [(.int (2 : Int32))]))
    have hc27_43 : ((0 : Int32) < (2 : Int32)) := by decide
    refine own_go (fun t_ k => XS.ifNo X42.here hx rfl (hb hby at_27) rfl ((if0 _ _).trans (tlt hc27_43).2.2.2) k) ?_
    show WP p e below _ (T42.setTop (mkF m 30 #[.val (.int p1), .val (.int p2), .val (.int p3), .val (.int p4), .val (.int p5), .val (.int (2 : Int32)), .val (.int vi40), .val (.ref b41)] []))
    refine own_go (fun t_ k => XS.aload X42.here hx rfl (hb hby at_30) rfl rfl k) ?_
    show WP p e below _ (T42.setTop (mkF m 32 #[.val (.int p1), .val (.int p2), .val (.int p3), .val (.int p4), .val (.int p5), .val (.int (2 : Int32)), .val (.int vi40), .val (.ref b41)] [(.ref b41)]))
    refine own_go (fun t_ k => XS.iloadN X42.here hx rfl (hb hby at_32) rfl k) ?_
    show WP p e below _ (T42.setTop (mkF m 33 #[.val (.int p1), .val (.int p2), .val (.int p3), .val (.int p4), .val (.int p5), .val (.int (2 : Int32)), .val (.int vi40), .val (.ref b41)] [(.int p3), (.ref b41)]))
    obtain ⟨cq44, kq44, q44a, q44b, q44c⟩ := isOf (T := T42) hZ rfl P42.1
    obtain ⟨_, _, ⟨T44, L44, k44, n44⟩, -, X44, ⟨Lc44, hQ44, l44, y44, z44⟩, st44⟩ := X42.virtualBack hx (y := (⟨"com/example/prefold/prefold/passes/IntList", "add", "(I)V"⟩ : MethodName)) (z := (⟨"com/example/prefold/prefold/passes/IntList", "add", "(I)V"⟩ : MethodName)) hown (mvT hZ (hw _ (List.mem_of_getElem? (i := 37) rfl))) (mvT hZ (hw _ (List.mem_of_getElem? (i := 38) rfl))) (notFace_of_selects (args := #[]) (mvT hZ (hw _ (List.mem_of_getElem? (i := 40) rfl)))) (mvT hZ (hw _ (List.mem_of_getElem? (i := 40) rfl))) (mvT hZ (hw _ (List.mem_of_getElem? (i := 39) rfl))) (by decide) (backOf (W := 0) (rm_add l Z a0 hw [] b41 p3 t42 kk42 (0 : Int32) ([] : List Int32) T42.heap n0 P42 g_b41 gt42 (by first | decide | (simp; done)) (by first | rfl | decide)) hZ (hw _ (List.mem_of_getElem? (i := 41) rfl)) (hw _ (List.mem_of_getElem? (i := 3) rfl)) (by decide) (by decide)) q44a q44c (g := (mkF m 33 #[.val (.int p1), .val (.int p2), .val (.int p3), .val (.int p4), .val (.int p5), .val (.int (2 : Int32)), .val (.int vi40), .val (.ref b41)] [(.int p3), (.ref b41)])) rfl (by rw [hml]; rfl) (Steps.refl _) (argsL := [(.int p3)]) (rest := []) (lenOf pd_4 rfl) rfl (by show 2 * 0 + _ ≤ _; exact Nat.le_of_eq rfl) (hb hby at_33) (fun _ _ => ⟨rfl, rfl, (by decide : 2 + 0 ≤ _), (by decide : 6 + 0 ≤ _)⟩)
    dsimp only [Pt.U, Pt.locs, Pt.cells, Pt.slots] at X44 l44 y44 z44 st44 hQ44
    subst l44 y44 z44
    obtain ⟨rfl, N44q, K44c, P44⟩ := hQ44
    have N44 := Fr.app N42 N44q
    replace X44 : Stand p l e room_1 s m _ below meth c T44 _ 2 6 := X44
    refine own_go (fun t_ k => st44.trans k) ?_
    have K44 : Keep h0 T44.heap [] := K42.trans K44c (allS (Or.inr sz_b41) (allS (Or.inr szt42) all0))
    replace P44 : IL Z T44.heap b41 t42 kk42 (1 : Int32) [p3] := P44
    show WP p e below _ (T44.setTop (mkF m 36 #[.val (.int p1), .val (.int p2), .val (.int p3), .val (.int p4), .val (.int p5), .val (.int (2 : Int32)), .val (.int vi40), .val (.ref b41)] []))
    refine own_go (fun t_ k => XS.iload X44.here hx rfl (hb hby at_36) rfl k) ?_
    show WP p e below _ (T44.setTop (mkF m 38 #[.val (.int p1), .val (.int p2), .val (.int p3), .val (.int p4), .val (.int p5), .val (.int (2 : Int32)), .val (.int vi40), .val (.ref b41)] [(.int (2 : Int32))]))
    refine own_go (fun t_ k => XS.iconst X44.here hx rfl (hb hby at_38) k) ?_
    show WP p e below _ (T44.setTop (mkF m 39 #[.val (.int p1), .val (.int p2), .val (.int p3), .val (.int p4), .val (.int p5), .val (.int (2 : Int32)), .val (.int vi40), .val (.ref b41)] [(.int (1 : Int32)), (.int (2 : Int32))]))
    have hc39_45 : ((1 : Int32) < (2 : Int32)) := by decide
    refine own_go (fun t_ k => XS.icmpNo X44.here hx rfl (hb hby at_39) rfl (tlt hc39_45).2.2.2 k) ?_
    show WP p e below _ (T44.setTop (mkF m 42 #[.val (.int p1), .val (.int p2), .val (.int p3), .val (.int p4), .val (.int p5), .val (.int (2 : Int32)), .val (.int vi40), .val (.ref b41)] []))
    refine own_go (fun t_ k => XS.aload X44.here hx rfl (hb hby at_42) rfl rfl k) ?_
    show WP p e below _ (T44.setTop (mkF m 44 #[.val (.int p1), .val (.int p2), .val (.int p3), .val (.int p4), .val (.int p5), .val (.int (2 : Int32)), .val (.int vi40), .val (.ref b41)] [(.ref b41)]))
    refine own_go (fun t_ k => XS.iloadN X44.here hx rfl (hb hby at_44) rfl k) ?_
    show WP p e below _ (T44.setTop (mkF m 45 #[.val (.int p1), .val (.int p2), .val (.int p3), .val (.int p4), .val (.int p5), .val (.int (2 : Int32)), .val (.int vi40), .val (.ref b41)] [(.int p4), (.ref b41)]))
    obtain ⟨cq46, kq46, q46a, q46b, q46c⟩ := isOf (T := T44) hZ rfl P44.1
    obtain ⟨_, _, ⟨T46, L46, k46, n46⟩, -, X46, ⟨Lc46, hQ46, l46, y46, z46⟩, st46⟩ := X44.virtualBack hx (y := (⟨"com/example/prefold/prefold/passes/IntList", "add", "(I)V"⟩ : MethodName)) (z := (⟨"com/example/prefold/prefold/passes/IntList", "add", "(I)V"⟩ : MethodName)) hown (mvT hZ (hw _ (List.mem_of_getElem? (i := 37) rfl))) (mvT hZ (hw _ (List.mem_of_getElem? (i := 38) rfl))) (notFace_of_selects (args := #[]) (mvT hZ (hw _ (List.mem_of_getElem? (i := 40) rfl)))) (mvT hZ (hw _ (List.mem_of_getElem? (i := 40) rfl))) (mvT hZ (hw _ (List.mem_of_getElem? (i := 39) rfl))) (by decide) (backOf (W := 0) (rm_add l Z a0 hw [] b41 p4 t42 kk42 (1 : Int32) [p3] T44.heap n0 P44 g_b41 gt42 (by first | decide | (simp; done)) (by first | rfl | decide)) hZ (hw _ (List.mem_of_getElem? (i := 41) rfl)) (hw _ (List.mem_of_getElem? (i := 3) rfl)) (by decide) (by decide)) q46a q46c (g := (mkF m 45 #[.val (.int p1), .val (.int p2), .val (.int p3), .val (.int p4), .val (.int p5), .val (.int (2 : Int32)), .val (.int vi40), .val (.ref b41)] [(.int p4), (.ref b41)])) rfl (by rw [hml]; rfl) (Steps.refl _) (argsL := [(.int p4)]) (rest := []) (lenOf pd_4 rfl) rfl (by show 2 * 0 + _ ≤ _; exact Nat.le_of_eq rfl) (hb hby at_45) (fun _ _ => ⟨rfl, rfl, (by decide : 2 + 0 ≤ _), (by decide : 6 + 0 ≤ _)⟩)
    dsimp only [Pt.U, Pt.locs, Pt.cells, Pt.slots] at X46 l46 y46 z46 st46 hQ46
    subst l46 y46 z46
    obtain ⟨rfl, N46q, K46c, P46⟩ := hQ46
    have N46 := Fr.app N44 N46q
    replace X46 : Stand p l e room_1 s m _ below meth c T46 _ 2 6 := X46
    refine own_go (fun t_ k => st46.trans k) ?_
    have K46 : Keep h0 T46.heap [] := K44.trans K46c (allS (Or.inr sz_b41) (allS (Or.inr szt42) all0))
    replace P46 : IL Z T46.heap b41 t42 kk42 (2 : Int32) [p3, p4] := P46
    show WP p e below _ (T46.setTop (mkF m 48 #[.val (.int p1), .val (.int p2), .val (.int p3), .val (.int p4), .val (.int p5), .val (.int (2 : Int32)), .val (.int vi40), .val (.ref b41)] []))
    refine own_go (fun t_ k => XS.iload X46.here hx rfl (hb hby at_48) rfl k) ?_
    show WP p e below _ (T46.setTop (mkF m 50 #[.val (.int p1), .val (.int p2), .val (.int p3), .val (.int p4), .val (.int p5), .val (.int (2 : Int32)), .val (.int vi40), .val (.ref b41)] [(.int (2 : Int32))]))
    refine own_go (fun t_ k => XS.iconst X46.here hx rfl (hb hby at_50) k) ?_
    show WP p e below _ (T46.setTop (mkF m 51 #[.val (.int p1), .val (.int p2), .val (.int p3), .val (.int p4), .val (.int p5), .val (.int (2 : Int32)), .val (.int vi40), .val (.ref b41)] [(.int (2 : Int32)), (.int (2 : Int32))]))
    have hc51_47 : ¬ ((2 : Int32) < (2 : Int32)) := by decide
    refine own_go (fun t_ k => XS.icmpYes X46.here hx rfl (pc0 := 51) (pc' := 61) rfl (hb hby at_51) rfl (flt hc51_47).2.2.2 (by decide) (by decide) k) ?_
    show WP p e below _ (T46.setTop (mkF m 61 #[.val (.int p1), .val (.int p2), .val (.int p3), .val (.int p4), .val (.int p5), .val (.int (2 : Int32)), .val (.int vi40), .val (.ref b41)] []))
    refine own_go (fun t_ k => XS.aload X46.here hx rfl (hb hby at_61) rfl rfl k) ?_
    show WP p e below _ (T46.setTop (mkF m 63 #[.val (.int p1), .val (.int p2), .val (.int p3), .val (.int p4), .val (.int p5), .val (.int (2 : Int32)), .val (.int vi40), .val (.ref b41)] [(.ref b41)]))
    refine own_go (fun t_ k => XS.iload X46.here hx rfl (hb hby at_63) rfl k) ?_
    show WP p e below _ (T46.setTop (mkF m 65 #[.val (.int p1), .val (.int p2), .val (.int p3), .val (.int p4), .val (.int p5), .val (.int (2 : Int32)), .val (.int vi40), .val (.ref b41)] [(.int vi40), (.ref b41)]))
    obtain ⟨cq48, kq48, q48a, q48b, q48c⟩ := isOf (T := T46) hZ rfl P46.1
    obtain ⟨_, _, ⟨T48, L48, k48, n48⟩, -, X48, ⟨Lc48, hQ48, l48, y48, z48⟩, st48⟩ := X46.virtualBack hx (y := (⟨"com/example/prefold/prefold/passes/IntList", "truncate", "(I)V"⟩ : MethodName)) (z := (⟨"com/example/prefold/prefold/passes/IntList", "truncate", "(I)V"⟩ : MethodName)) hown (mvT hZ (hw _ (List.mem_of_getElem? (i := 13) rfl))) (mvT hZ (hw _ (List.mem_of_getElem? (i := 14) rfl))) (notFace_of_selects (args := #[]) (mvT hZ (hw _ (List.mem_of_getElem? (i := 16) rfl)))) (mvT hZ (hw _ (List.mem_of_getElem? (i := 16) rfl))) (mvT hZ (hw _ (List.mem_of_getElem? (i := 15) rfl))) (by decide) (backOf (W := 0) (rm_tr l Z a0 hw [] b41 vi40 t42 kk42 (2 : Int32) [p3, p4] T46.heap n0 P46 g_b41 (by have b := own_rem 3 3 rfl (by decide) he40; have o : (0 : Int32).toInt = 0 := rfl; rw [Int32.lt_iff_toInt_lt]; omega) (by have b := own_rem 3 3 rfl (by decide) he40; have o : ((2 : Int32) + 1).toInt = 3 := rfl; rw [Int32.lt_iff_toInt_lt]; omega)) hZ (hw _ (List.mem_of_getElem? (i := 17) rfl)) (hw _ (List.mem_of_getElem? (i := 3) rfl)) (by decide) (by decide)) q48a q48c (g := (mkF m 65 #[.val (.int p1), .val (.int p2), .val (.int p3), .val (.int p4), .val (.int p5), .val (.int (2 : Int32)), .val (.int vi40), .val (.ref b41)] [(.int vi40), (.ref b41)])) rfl (by rw [hml]; rfl) (Steps.refl _) (argsL := [(.int vi40)]) (rest := []) (lenOf pd_4 rfl) rfl (by show 2 * 0 + _ ≤ _; exact Nat.le_of_eq rfl) (hb hby at_65) (fun _ _ => ⟨rfl, rfl, (by decide : 2 + 0 ≤ _), (by decide : 6 + 0 ≤ _)⟩)
    dsimp only [Pt.U, Pt.locs, Pt.cells, Pt.slots] at X48 l48 y48 z48 st48 hQ48
    subst l48 y48 z48
    obtain ⟨rfl, N48q, K48c, P48⟩ := hQ48
    have N48 := Fr.app N46 N48q
    replace X48 : Stand p l e room_1 s m _ below meth c T48 _ 2 6 := X48
    refine own_go (fun t_ k => st48.trans k) ?_
    have K48 : Keep h0 T48.heap [] := K46.trans K48c (allS (Or.inr sz_b41) all0)
    show WP p e below _ (T48.setTop (mkF m 68 #[.val (.int p1), .val (.int p2), .val (.int p3), .val (.int p4), .val (.int p5), .val (.int (2 : Int32)), .val (.int vi40), .val (.ref b41)] []))
    refine own_go (fun t_ k => XS.aload X48.here hx rfl (hb hby at_68) rfl rfl k) ?_
    show WP p e below _ (T48.setTop (mkF m 70 #[.val (.int p1), .val (.int p2), .val (.int p3), .val (.int p4), .val (.int p5), .val (.int (2 : Int32)), .val (.int vi40), .val (.ref b41)] [(.ref b41)]))
    obtain ⟨cq49, kq49, q49a, q49b, q49c⟩ := isOf (T := T48) hZ rfl P48.1
    obtain ⟨_, _, ⟨T49, L49, k49, n49⟩, -, X49, ⟨Lc49, hQ49, l49, y49, z49⟩, st49⟩ := X48.virtualBack hx (y := (⟨"com/example/prefold/prefold/passes/IntList", "size", "()I"⟩ : MethodName)) (z := (⟨"com/example/prefold/prefold/passes/IntList", "size", "()I"⟩ : MethodName)) hown (mvT hZ (hw _ (List.mem_of_getElem? (i := 28) rfl))) (mvT hZ (hw _ (List.mem_of_getElem? (i := 29) rfl))) (notFace_of_selects (args := #[]) (mvT hZ (hw _ (List.mem_of_getElem? (i := 31) rfl)))) (mvT hZ (hw _ (List.mem_of_getElem? (i := 31) rfl))) (mvT hZ (hw _ (List.mem_of_getElem? (i := 30) rfl))) (by decide) (backOf (W := 0) (rm_size l Z a0 hw [] b41 t42 kk42 vi40 [p3, p4] T48.heap n0 P48) hZ (hw _ (List.mem_of_getElem? (i := 32) rfl)) (hw _ (List.mem_of_getElem? (i := 3) rfl)) (by decide) (by decide)) q49a q49c (g := (mkF m 70 #[.val (.int p1), .val (.int p2), .val (.int p3), .val (.int p4), .val (.int p5), .val (.int (2 : Int32)), .val (.int vi40), .val (.ref b41)] [(.ref b41)])) rfl (by rw [hml]; rfl) (Steps.refl _) (argsL := []) (rest := []) (lenOf pd_5 rfl) rfl (by show 2 * 0 + _ ≤ _; exact Nat.le_of_eq rfl) (hb hby at_70) (fun _ _ => ⟨rfl, rfl, (by decide : 2 + 0 ≤ _), (by decide : 6 + 0 ≤ _)⟩)
    dsimp only [Pt.U, Pt.locs, Pt.cells, Pt.slots] at X49 l49 y49 z49 st49 hQ49
    subst l49 y49 z49
    obtain ⟨rfl, N49q, e49⟩ := hQ49
    have N49 := Fr.app N48 N49q
    replace X49 : Stand p l e room_1 s m _ below meth c T49 _ 2 6 := X49
    refine own_go (fun t_ k => st49.trans k) ?_
    show WP p e below _ (T49.setTop (mkF m 73 #[.val (.int p1), .val (.int p2), .val (.int p3), .val (.int p4), .val (.int p5), .val (.int (2 : Int32)), .val (.int vi40), .val (.ref b41)] [(.int vi40)]))
    refine own_go (fun t_ k => XS.iload X49.here hx rfl (hb hby at_73) rfl k) ?_
    show WP p e below _ (T49.setTop (mkF m 75 #[.val (.int p1), .val (.int p2), .val (.int p3), .val (.int p4), .val (.int p5), .val (.int (2 : Int32)), .val (.int vi40), .val (.ref b41)] [(.int vi40), (.int vi40)]))
    have hc75_50 : (vi40 = vi40) := rfl
    refine own_go (fun t_ k => XS.icmpYes X49.here hx rfl (pc0 := 75) (pc' := 80) rfl (hb hby at_75) rfl (teq hc75_50).1 (by decide) (by decide) k) ?_
    show WP p e below _ (T49.setTop (mkF m 80 #[.val (.int p1), .val (.int p2), .val (.int p3), .val (.int p4), .val (.int p5), .val (.int (2 : Int32)), .val (.int vi40), .val (.ref b41)] []))
    refine own_go (fun t_ k => XS.aload X49.here hx rfl (hb hby at_80) rfl rfl k) ?_
    show WP p e below _ (T49.setTop (mkF m 82 #[.val (.int p1), .val (.int p2), .val (.int p3), .val (.int p4), .val (.int p5), .val (.int (2 : Int32)), .val (.int vi40), .val (.ref b41)] [(.ref b41)]))
    refine own_go (fun t_ k => XS.iconst X49.here hx rfl (hb hby at_82) k) ?_
    show WP p e below _ (T49.setTop (mkF m 83 #[.val (.int p1), .val (.int p2), .val (.int p3), .val (.int p4), .val (.int p5), .val (.int (2 : Int32)), .val (.int vi40), .val (.ref b41)] [(.int (0 : Int32)), (.ref b41)]))
    refine own_go (fun t_ k => XS.iload X49.here hx rfl (hb hby at_83) rfl k) ?_
    show WP p e below _ (T49.setTop (mkF m 85 #[.val (.int p1), .val (.int p2), .val (.int p3), .val (.int p4), .val (.int p5), .val (.int (2 : Int32)), .val (.int vi40), .val (.ref b41)] [(.int vi40), (.int (0 : Int32)), (.ref b41)]))
    refine own_go (fun t_ k => XS.iloadN X49.here hx rfl (hb hby at_85) rfl k) ?_
    show WP p e below _ (T49.setTop (mkF m 86 #[.val (.int p1), .val (.int p2), .val (.int p3), .val (.int p4), .val (.int p5), .val (.int (2 : Int32)), .val (.int vi40), .val (.ref b41)] [(.int p3), (.int vi40), (.int (0 : Int32)), (.ref b41)]))
    obtain ⟨_, _, ⟨T51, L51, k51, n51⟩, -, X51, ⟨Lc51, hQ51, l51, y51, z51⟩, st51⟩ := Jvm.LawKit.callS X49 hx (y := (⟨"com/example/prefold/prefold/passes/IntListTruncatePinLaw", "kept", "(Lcom/example/prefold/prefold/passes/IntList;III)Z"⟩ : MethodName)) hown (mvT hZ (hw _ (List.mem_of_getElem? (i := 33) rfl))) (mvT hZ (hw _ (List.mem_of_getElem? (i := 34) rfl))) (mvT hZ (hw _ (List.mem_of_getElem? (i := 35) rfl))) (mvT hZ (hw _ (List.mem_of_getElem? (i := 36) rfl))) (by decide) (backOf (W := 0) (rm_kept l Z a0 hw [] b41 (0 : Int32) vi40 p3 t42 kk42 vi40 [p3, p4] T48.heap n0 P48 (by decide) (by decide)) hZ (hw _ (List.mem_of_getElem? (i := 36) rfl)) (hw _ (List.mem_of_getElem? (i := 35) rfl)) (by decide) (by decide)) (g := (mkF m 86 #[.val (.int p1), .val (.int p2), .val (.int p3), .val (.int p4), .val (.int p5), .val (.int (2 : Int32)), .val (.int vi40), .val (.ref b41)] [(.int p3), (.int vi40), (.int (0 : Int32)), (.ref b41)])) rfl (by rw [hml]; rfl) (argsL := [(.ref b41), (.int (0 : Int32)), (.int vi40), (.int p3)]) (rest := []) (lenOf pd_6 rfl) rfl (by show 2 * 0 + _ ≤ _; exact Nat.le_of_eq rfl) (hb hby at_86) (fun _ _ => ⟨rfl, e49, (by decide : 2 + 0 ≤ _), (by decide : 6 + 0 ≤ _)⟩)
    dsimp only [Pt.U, Pt.locs, Pt.cells, Pt.slots] at X51 l51 y51 z51 st51 hQ51
    subst l51 y51 z51
    obtain ⟨rfl, N51q, e51⟩ := hQ51
    have N51 := Fr.app N49 N51q
    replace X51 : Stand p l e room_1 s m _ below meth c T51 _ 2 6 := X51
    refine own_go st51 ?_
    show WP p e below _ (T51.setTop (mkF m 89 #[.val (.int p1), .val (.int p2), .val (.int p3), .val (.int p4), .val (.int p5), .val (.int (2 : Int32)), .val (.int vi40), .val (.ref b41)] [(.int (f7 (0 : Int32) vi40 p3 [p3, p4]))]))
    generalize he52 : (f7 (0 : Int32) vi40 p3 [p3, p4]) = vi52
    show WP p e below _ (T51.setTop (mkF m 89 #[.val (.int p1), .val (.int p2), .val (.int p3), .val (.int p4), .val (.int p5), .val (.int (2 : Int32)), .val (.int vi40), .val (.ref b41)] [(.int vi52)]))
    have J55 : ∀ (T55 : State) (ls55 : List Loc) (X55 : Stand p l e room_1 s m #[(.int p1), (.int p2), (.int p3), (.int p4), (.int p5)] below meth c T55 ls55 2 6) (N55 : Fr n0 ls55) (e55 : T55.heap = T48.heap) (z54_S0 : Int32) (hz54_S0 : z54_S0 = (if vi52 = (0 : Int32) then (0 : Int32) else (if (f7 (1 : Int32) vi40 p4 [p3, p4]) = (0 : Int32) then (0 : Int32) else (if (f7 (2 : Int32) vi40 p5 [p3, p4]) = (0 : Int32) then (0 : Int32) else (1 : Int32))))), WP p e below (GG (Q0 n0) s room_1.cells room_1.slots) (T55.setTop (mkF m 122 #[.val (.int p1), .val (.int p2), .val (.int p3), .val (.int p4), .val (.int p5), .val (.int (2 : Int32)), .val (.int vi40), .val (.ref b41)] [(.int z54_S0)])) := by
      intro T55 ls55 X55 N55 e55 z54_S0 hz54_S0
      show WP p e below _ (T55.setTop (mkF m 122 #[.val (.int p1), .val (.int p2), .val (.int p3), .val (.int p4), .val (.int p5), .val (.int (2 : Int32)), .val (.int vi40), .val (.ref b41)] [(.int z54_S0)]))
      exact own_retZ X55 hx Bd.notSynchronized Bd.returns (hb hby at_122) (by rw [hz54_S0]; (repeat' split); all_goals first | exact Or.inl rfl | exact Or.inr rfl) (show Q0 n0 _ _ _ from ⟨congrArg (fun z => some (Value.int z)) (own_law_3 (p1 := p1) (p2 := p2) (p3 := p3) (p4 := p4) (p5 := p5) he1 he40 he52 hz54_S0 hc75_50), N55⟩) (by decide) (by decide)
    by_cases hc89_53 : vi52 = (0 : Int32)
    · refine own_go (fun t_ k => XS.ifYes X51.here hx rfl (pc0 := 89) (pc' := 121) rfl (hb hby at_89) rfl ((if0 _ _).trans (teq hc89_53).1) (by decide) (by decide) k) ?_
      show WP p e below _ (T51.setTop (mkF m 121 #[.val (.int p1), .val (.int p2), .val (.int p3), .val (.int p4), .val (.int p5), .val (.int (2 : Int32)), .val (.int vi40), .val (.ref b41)] []))
      refine own_go (fun t_ k => XS.iconst X51.here hx rfl (hb hby at_121) k) ?_
      show WP p e below _ (T51.setTop (mkF m 122 #[.val (.int p1), .val (.int p2), .val (.int p3), .val (.int p4), .val (.int p5), .val (.int (2 : Int32)), .val (.int vi40), .val (.ref b41)] [(.int (0 : Int32))]))
      exact J55 T51 _ X51 N51 e51 _ (by rw [if_pos hc89_53])
    · refine own_go (fun t_ k => XS.ifNo X51.here hx rfl (hb hby at_89) rfl ((if0 _ _).trans (feq hc89_53).1) k) ?_
      show WP p e below _ (T51.setTop (mkF m 92 #[.val (.int p1), .val (.int p2), .val (.int p3), .val (.int p4), .val (.int p5), .val (.int (2 : Int32)), .val (.int vi40), .val (.ref b41)] []))
      refine own_go (fun t_ k => XS.aload X51.here hx rfl (hb hby at_92) rfl rfl k) ?_
      show WP p e below _ (T51.setTop (mkF m 94 #[.val (.int p1), .val (.int p2), .val (.int p3), .val (.int p4), .val (.int p5), .val (.int (2 : Int32)), .val (.int vi40), .val (.ref b41)] [(.ref b41)]))
      refine own_go (fun t_ k => XS.iconst X51.here hx rfl (hb hby at_94) k) ?_
      show WP p e below _ (T51.setTop (mkF m 95 #[.val (.int p1), .val (.int p2), .val (.int p3), .val (.int p4), .val (.int p5), .val (.int (2 : Int32)), .val (.int vi40), .val (.ref b41)] [(.int (1 : Int32)), (.ref b41)]))
      refine own_go (fun t_ k => XS.iload X51.here hx rfl (hb hby at_95) rfl k) ?_
      show WP p e below _ (T51.setTop (mkF m 97 #[.val (.int p1), .val (.int p2), .val (.int p3), .val (.int p4), .val (.int p5), .val (.int (2 : Int32)), .val (.int vi40), .val (.ref b41)] [(.int vi40), (.int (1 : Int32)), (.ref b41)]))
      refine own_go (fun t_ k => XS.iloadN X51.here hx rfl (hb hby at_97) rfl k) ?_
      show WP p e below _ (T51.setTop (mkF m 98 #[.val (.int p1), .val (.int p2), .val (.int p3), .val (.int p4), .val (.int p5), .val (.int (2 : Int32)), .val (.int vi40), .val (.ref b41)] [(.int p4), (.int vi40), (.int (1 : Int32)), (.ref b41)]))
      obtain ⟨_, _, ⟨T56, L56, k56, n56⟩, -, X56, ⟨Lc56, hQ56, l56, y56, z56⟩, st56⟩ := Jvm.LawKit.callS X51 hx (y := (⟨"com/example/prefold/prefold/passes/IntListTruncatePinLaw", "kept", "(Lcom/example/prefold/prefold/passes/IntList;III)Z"⟩ : MethodName)) hown (mvT hZ (hw _ (List.mem_of_getElem? (i := 33) rfl))) (mvT hZ (hw _ (List.mem_of_getElem? (i := 34) rfl))) (mvT hZ (hw _ (List.mem_of_getElem? (i := 35) rfl))) (mvT hZ (hw _ (List.mem_of_getElem? (i := 36) rfl))) (by decide) (backOf (W := 0) (rm_kept l Z a0 hw [] b41 (1 : Int32) vi40 p4 t42 kk42 vi40 [p3, p4] T48.heap n0 P48 (by decide) (by decide)) hZ (hw _ (List.mem_of_getElem? (i := 36) rfl)) (hw _ (List.mem_of_getElem? (i := 35) rfl)) (by decide) (by decide)) (g := (mkF m 98 #[.val (.int p1), .val (.int p2), .val (.int p3), .val (.int p4), .val (.int p5), .val (.int (2 : Int32)), .val (.int vi40), .val (.ref b41)] [(.int p4), (.int vi40), (.int (1 : Int32)), (.ref b41)])) rfl (by rw [hml]; rfl) (argsL := [(.ref b41), (.int (1 : Int32)), (.int vi40), (.int p4)]) (rest := []) (lenOf pd_6 rfl) rfl (by show 2 * 0 + _ ≤ _; exact Nat.le_of_eq rfl) (hb hby at_98) (fun _ _ => ⟨rfl, e51, (by decide : 2 + 0 ≤ _), (by decide : 6 + 0 ≤ _)⟩)
      dsimp only [Pt.U, Pt.locs, Pt.cells, Pt.slots] at X56 l56 y56 z56 st56 hQ56
      subst l56 y56 z56
      obtain ⟨rfl, N56q, e56⟩ := hQ56
      have N56 := Fr.app N51 N56q
      replace X56 : Stand p l e room_1 s m _ below meth c T56 _ 2 6 := X56
      refine own_go st56 ?_
      show WP p e below _ (T56.setTop (mkF m 101 #[.val (.int p1), .val (.int p2), .val (.int p3), .val (.int p4), .val (.int p5), .val (.int (2 : Int32)), .val (.int vi40), .val (.ref b41)] [(.int (f7 (1 : Int32) vi40 p4 [p3, p4]))]))
      by_cases hc101_57 : (f7 (1 : Int32) vi40 p4 [p3, p4]) = (0 : Int32)
      · refine own_go (fun t_ k => XS.ifYes X56.here hx rfl (pc0 := 101) (pc' := 121) rfl (hb hby at_101) rfl ((if0 _ _).trans (teq hc101_57).1) (by decide) (by decide) k) ?_
        show WP p e below _ (T56.setTop (mkF m 121 #[.val (.int p1), .val (.int p2), .val (.int p3), .val (.int p4), .val (.int p5), .val (.int (2 : Int32)), .val (.int vi40), .val (.ref b41)] []))
        refine own_go (fun t_ k => XS.iconst X56.here hx rfl (hb hby at_121) k) ?_
        show WP p e below _ (T56.setTop (mkF m 122 #[.val (.int p1), .val (.int p2), .val (.int p3), .val (.int p4), .val (.int p5), .val (.int (2 : Int32)), .val (.int vi40), .val (.ref b41)] [(.int (0 : Int32))]))
        exact J55 T56 _ X56 N56 e56 _ (by rw [if_neg hc89_53, if_pos hc101_57])
      · refine own_go (fun t_ k => XS.ifNo X56.here hx rfl (hb hby at_101) rfl ((if0 _ _).trans (feq hc101_57).1) k) ?_
        show WP p e below _ (T56.setTop (mkF m 104 #[.val (.int p1), .val (.int p2), .val (.int p3), .val (.int p4), .val (.int p5), .val (.int (2 : Int32)), .val (.int vi40), .val (.ref b41)] []))
        refine own_go (fun t_ k => XS.aload X56.here hx rfl (hb hby at_104) rfl rfl k) ?_
        show WP p e below _ (T56.setTop (mkF m 106 #[.val (.int p1), .val (.int p2), .val (.int p3), .val (.int p4), .val (.int p5), .val (.int (2 : Int32)), .val (.int vi40), .val (.ref b41)] [(.ref b41)]))
        refine own_go (fun t_ k => XS.iconst X56.here hx rfl (hb hby at_106) k) ?_
        show WP p e below _ (T56.setTop (mkF m 107 #[.val (.int p1), .val (.int p2), .val (.int p3), .val (.int p4), .val (.int p5), .val (.int (2 : Int32)), .val (.int vi40), .val (.ref b41)] [(.int (2 : Int32)), (.ref b41)]))
        refine own_go (fun t_ k => XS.iload X56.here hx rfl (hb hby at_107) rfl k) ?_
        show WP p e below _ (T56.setTop (mkF m 109 #[.val (.int p1), .val (.int p2), .val (.int p3), .val (.int p4), .val (.int p5), .val (.int (2 : Int32)), .val (.int vi40), .val (.ref b41)] [(.int vi40), (.int (2 : Int32)), (.ref b41)]))
        refine own_go (fun t_ k => XS.iload X56.here hx rfl (hb hby at_109) rfl k) ?_
        show WP p e below _ (T56.setTop (mkF m 111 #[.val (.int p1), .val (.int p2), .val (.int p3), .val (.int p4), .val (.int p5), .val (.int (2 : Int32)), .val (.int vi40), .val (.ref b41)] [(.int p5), (.int vi40), (.int (2 : Int32)), (.ref b41)]))
        obtain ⟨_, _, ⟨T58, L58, k58, n58⟩, -, X58, ⟨Lc58, hQ58, l58, y58, z58⟩, st58⟩ := Jvm.LawKit.callS X56 hx (y := (⟨"com/example/prefold/prefold/passes/IntListTruncatePinLaw", "kept", "(Lcom/example/prefold/prefold/passes/IntList;III)Z"⟩ : MethodName)) hown (mvT hZ (hw _ (List.mem_of_getElem? (i := 33) rfl))) (mvT hZ (hw _ (List.mem_of_getElem? (i := 34) rfl))) (mvT hZ (hw _ (List.mem_of_getElem? (i := 35) rfl))) (mvT hZ (hw _ (List.mem_of_getElem? (i := 36) rfl))) (by decide) (backOf (W := 0) (rm_kept l Z a0 hw [] b41 (2 : Int32) vi40 p5 t42 kk42 vi40 [p3, p4] T48.heap n0 P48 (by decide) (by decide)) hZ (hw _ (List.mem_of_getElem? (i := 36) rfl)) (hw _ (List.mem_of_getElem? (i := 35) rfl)) (by decide) (by decide)) (g := (mkF m 111 #[.val (.int p1), .val (.int p2), .val (.int p3), .val (.int p4), .val (.int p5), .val (.int (2 : Int32)), .val (.int vi40), .val (.ref b41)] [(.int p5), (.int vi40), (.int (2 : Int32)), (.ref b41)])) rfl (by rw [hml]; rfl) (argsL := [(.ref b41), (.int (2 : Int32)), (.int vi40), (.int p5)]) (rest := []) (lenOf pd_6 rfl) rfl (by show 2 * 0 + _ ≤ _; exact Nat.le_of_eq rfl) (hb hby at_111) (fun _ _ => ⟨rfl, e56, (by decide : 2 + 0 ≤ _), (by decide : 6 + 0 ≤ _)⟩)
        dsimp only [Pt.U, Pt.locs, Pt.cells, Pt.slots] at X58 l58 y58 z58 st58 hQ58
        subst l58 y58 z58
        obtain ⟨rfl, N58q, e58⟩ := hQ58
        have N58 := Fr.app N56 N58q
        replace X58 : Stand p l e room_1 s m _ below meth c T58 _ 2 6 := X58
        refine own_go st58 ?_
        show WP p e below _ (T58.setTop (mkF m 114 #[.val (.int p1), .val (.int p2), .val (.int p3), .val (.int p4), .val (.int p5), .val (.int (2 : Int32)), .val (.int vi40), .val (.ref b41)] [(.int (f7 (2 : Int32) vi40 p5 [p3, p4]))]))
        by_cases hc114_59 : (f7 (2 : Int32) vi40 p5 [p3, p4]) = (0 : Int32)
        · refine own_go (fun t_ k => XS.ifYes X58.here hx rfl (pc0 := 114) (pc' := 121) rfl (hb hby at_114) rfl ((if0 _ _).trans (teq hc114_59).1) (by decide) (by decide) k) ?_
          show WP p e below _ (T58.setTop (mkF m 121 #[.val (.int p1), .val (.int p2), .val (.int p3), .val (.int p4), .val (.int p5), .val (.int (2 : Int32)), .val (.int vi40), .val (.ref b41)] []))
          refine own_go (fun t_ k => XS.iconst X58.here hx rfl (hb hby at_121) k) ?_
          show WP p e below _ (T58.setTop (mkF m 122 #[.val (.int p1), .val (.int p2), .val (.int p3), .val (.int p4), .val (.int p5), .val (.int (2 : Int32)), .val (.int vi40), .val (.ref b41)] [(.int (0 : Int32))]))
          exact J55 T58 _ X58 N58 e58 _ (by rw [if_neg hc89_53, if_neg hc101_57, if_pos hc114_59])
        · refine own_go (fun t_ k => XS.ifNo X58.here hx rfl (hb hby at_114) rfl ((if0 _ _).trans (feq hc114_59).1) k) ?_
          show WP p e below _ (T58.setTop (mkF m 117 #[.val (.int p1), .val (.int p2), .val (.int p3), .val (.int p4), .val (.int p5), .val (.int (2 : Int32)), .val (.int vi40), .val (.ref b41)] []))
          refine own_go (fun t_ k => XS.iconst X58.here hx rfl (hb hby at_117) k) ?_
          show WP p e below _ (T58.setTop (mkF m 118 #[.val (.int p1), .val (.int p2), .val (.int p3), .val (.int p4), .val (.int p5), .val (.int (2 : Int32)), .val (.int vi40), .val (.ref b41)] [(.int (1 : Int32))]))
          refine own_go (fun t_ k => XS.goto X58.here hx rfl (pc0 := 118) (pc' := 122) rfl (hb hby at_118) (by decide) (by decide) k) ?_
          show WP p e below _ (T58.setTop (mkF m 122 #[.val (.int p1), .val (.int p2), .val (.int p3), .val (.int p4), .val (.int p5), .val (.int (2 : Int32)), .val (.int vi40), .val (.ref b41)] [(.int (1 : Int32))]))
          exact J55 T58 _ X58 N58 e58 _ (by rw [if_neg hc89_53, if_neg hc101_57, if_neg hc114_59])
  · subst hs2
    show WP p e below _ (s₁.setTop (mkF m 5 #[.val (.int p1), .val (.int p2), .val (.int p3), .val (.int p4), .val (.int p5), .val (.int (3 : Int32)), .unset, .unset] []))
    refine own_go (fun t_ k => XS.iloadN X0.here hx rfl (hb hby at_5) rfl k) ?_
    show WP p e below _ (s₁.setTop (mkF m 6 #[.val (.int p1), .val (.int p2), .val (.int p3), .val (.int p4), .val (.int p5), .val (.int (3 : Int32)), .unset, .unset] [(.int p2)]))
    refine own_go (fun t_ k => X0.ldcInt hx hown (mvT hZ (hw _ (List.mem_of_getElem? (i := 0) rfl))) (g := (mkF m 6 #[.val (.int p1), .val (.int p2), .val (.int p3), .val (.int p4), .val (.int p5), .val (.int (3 : Int32)), .unset, .unset] [(.int p2)])) rfl (hb hby at_6) _ k) ?_
    show WP p e below _ (s₁.setTop (mkF m 8 #[.val (.int p1), .val (.int p2), .val (.int p3), .val (.int p4), .val (.int p5), .val (.int (3 : Int32)), .unset, .unset] [(.int (2147483647 : Int32)), (.int p2)]))
    refine own_go (fun t_ k => XS.iand X0.here hx rfl (hb hby at_8) rfl k) ?_
    show WP p e below _ (s₁.setTop (mkF m 9 #[.val (.int p1), .val (.int p2), .val (.int p3), .val (.int p4), .val (.int p5), .val (.int (3 : Int32)), .unset, .unset] [(.int (p2 &&& (2147483647 : Int32)))]))
    refine own_go (fun t_ k => XS.iload X0.here hx rfl (hb hby at_9) rfl k) ?_
    show WP p e below _ (s₁.setTop (mkF m 11 #[.val (.int p1), .val (.int p2), .val (.int p3), .val (.int p4), .val (.int p5), .val (.int (3 : Int32)), .unset, .unset] [(.int (3 : Int32)), (.int (p2 &&& (2147483647 : Int32)))]))
    refine own_go (fun t_ k => XS.iconst X0.here hx rfl (hb hby at_11) k) ?_
    show WP p e below _ (s₁.setTop (mkF m 12 #[.val (.int p1), .val (.int p2), .val (.int p3), .val (.int p4), .val (.int p5), .val (.int (3 : Int32)), .unset, .unset] [(.int (1 : Int32)), (.int (3 : Int32)), (.int (p2 &&& (2147483647 : Int32)))]))
    refine own_go (fun t_ k => XS.iadd X0.here hx rfl (hb hby at_12) rfl k) ?_
    show WP p e below _ (s₁.setTop (mkF m 13 #[.val (.int p1), .val (.int p2), .val (.int p3), .val (.int p4), .val (.int p5), .val (.int (3 : Int32)), .unset, .unset] [(.int (4 : Int32)), (.int (p2 &&& (2147483647 : Int32)))]))
    refine own_go (fun t_ k => iremM X0 hx rfl (hb hby at_13) rfl (by decide) k) ?_
    show WP p e below _ (s₁.setTop (mkF m 14 #[.val (.int p1), .val (.int p2), .val (.int p3), .val (.int p4), .val (.int p5), .val (.int (3 : Int32)), .unset, .unset] [(.int ((p2 &&& (2147483647 : Int32)) % (4 : Int32)))]))
    refine own_go (fun t_ k => XS.istore X0.here hx rfl (hb hby at_14) rfl (l' := #[.val (.int p1), .val (.int p2), .val (.int p3), .val (.int p4), .val (.int p5), .val (.int (3 : Int32)), .val (.int ((p2 &&& (2147483647 : Int32)) % (4 : Int32))), .unset]) rfl k) ?_
    show WP p e below _ (s₁.setTop (mkF m 16 #[.val (.int p1), .val (.int p2), .val (.int p3), .val (.int p4), .val (.int p5), .val (.int (3 : Int32)), .val (.int ((p2 &&& (2147483647 : Int32)) % (4 : Int32))), .unset] []))
    generalize he60 : ((p2 &&& (2147483647 : Int32)) % (4 : Int32)) = vi60
    show WP p e below _ (s₁.setTop (mkF m 16 #[.val (.int p1), .val (.int p2), .val (.int p3), .val (.int p4), .val (.int p5), .val (.int (3 : Int32)), .val (.int vi60), .unset] []))
    obtain ⟨T61, h61, X61, e61, E61, A61, D61, -, st61⟩ := newO X0 hx hZ hown (hw _ (List.mem_of_getElem? (i := 1) rfl)) (hw _ (List.mem_of_getElem? (i := 2) rfl)) (hw _ (List.mem_of_getElem? (i := 3) rfl)) e0 (g := (mkF m 16 #[.val (.int p1), .val (.int p2), .val (.int p3), .val (.int p4), .val (.int p5), .val (.int (3 : Int32)), .val (.int vi60), .unset] [])) rfl (hb hby at_16) (by decide) (by decide)
    obtain ⟨b61, g61⟩ : ∃ z, z = Array.size h0 := ⟨_, rfl⟩
    rw [← g61] at A61 D61 st61
    refine own_go st61 ?_
    have g_b61 : n0 ≤ b61 := Nat.le_trans (Nat.le_trans Z0 (Keep.refl h0 []).1) (Nat.le_of_eq g61.symm)
    have sz_b61 : h0.size ≤ b61 := Nat.le_trans (Keep.refl h0 []).1 (Nat.le_of_eq g61.symm)
    have K61 : Keep h0 h61 [] := (Keep.refl h0 []).ext E61
    have F61_values : Fld Z h61 b61 "com/example/prefold/prefold/passes/IntList" "values" "[I" .null := D61 (Or.inl (hw _ (List.mem_of_getElem? (i := 12) rfl))) (ty := (.array .int)) (by decide)
    have F61_size : Fld Z h61 b61 "com/example/prefold/prefold/passes/IntList" "size" "I" (.int (0 : Int32)) := D61 (Or.inl (hw _ (List.mem_of_getElem? (i := 19) rfl))) (ty := .int) (by decide)
    show WP p e below _ (T61.setTop (mkF m 19 #[.val (.int p1), .val (.int p2), .val (.int p3), .val (.int p4), .val (.int p5), .val (.int (3 : Int32)), .val (.int vi60), .unset] [(.ref b61)]))
    refine own_go (fun t_ k => XS.dup X61.here hx rfl (hb hby at_19) rfl rfl k) ?_
    show WP p e below _ (T61.setTop (mkF m 20 #[.val (.int p1), .val (.int p2), .val (.int p3), .val (.int p4), .val (.int p5), .val (.int (3 : Int32)), .val (.int vi60), .unset] [(.ref b61), (.ref b61)]))
    obtain ⟨_, _, ⟨T62, L62, k62, n62⟩, -, X62, ⟨Lc62, hQ62, l62, y62, z62⟩, st62⟩ := X61.specialBack hx (y := (⟨"com/example/prefold/prefold/passes/IntList", "<init>", "()V"⟩ : MethodName)) rfl hown (mvT hZ (hw _ (List.mem_of_getElem? (i := 4) rfl))) (mvT hZ (hw _ (List.mem_of_getElem? (i := 5) rfl))) (mvT hZ (hw _ (List.mem_of_getElem? (i := 6) rfl))) (by decide) (backOf (W := 1) (rm_i0 l Z a0 hw [] b61 h61 n0 (Nat.le_trans Z0 K61.1) A61 g_b61 F61_values F61_size) hZ (hw _ (List.mem_of_getElem? (i := 6) rfl)) (hw _ (List.mem_of_getElem? (i := 3) rfl)) (by decide) (by decide)) (g := (mkF m 20 #[.val (.int p1), .val (.int p2), .val (.int p3), .val (.int p4), .val (.int p5), .val (.int (3 : Int32)), .val (.int vi60), .unset] [(.ref b61), (.ref b61)])) rfl (by rw [hml]; rfl) (Steps.refl _) (a := b61) (argsL := []) (rest := [(.ref b61)]) (lenOf pd_3 rfl) rfl (by show 2 * 0 + _ ≤ _; exact Nat.le_of_eq rfl) (hb hby at_20) (fun _ _ => ⟨rfl, e61, (by decide : 1 + 1 ≤ _), (by decide : 2 + 4 ≤ _)⟩)
    dsimp only [Pt.U, Pt.locs, Pt.cells, Pt.slots] at X62 l62 y62 z62 st62 hQ62
    subst l62 y62 z62
    obtain ⟨rfl, N62q, K62c, t62, kk62, gt62, st62', P62⟩ := hQ62
    have N62 := Fr.app N0 N62q
    replace X62 : Stand p l e room_1 s m _ below meth c T62 _ 2 6 := X62
    refine own_go (fun t_ k => st62.trans k) ?_
    have K62 : Keep h0 T62.heap [] := K61.trans K62c (allS (Or.inr sz_b61) all0)
    have szt62 : h0.size ≤ t62 := Nat.le_trans K61.1 st62'
    show WP p e below _ (T62.setTop (mkF m 23 #[.val (.int p1), .val (.int p2), .val (.int p3), .val (.int p4), .val (.int p5), .val (.int (3 : Int32)), .val (.int vi60), .unset] [(.ref b61)]))
    refine own_go (fun t_ k => XS.astore X62.here hx rfl (hb hby at_23) rfl rfl (l' := #[.val (.int p1), .val (.int p2), .val (.int p3), .val (.int p4), .val (.int p5), .val (.int (3 : Int32)), .val (.int vi60), .val (.ref b61)]) rfl k) ?_
    show WP p e below _ (T62.setTop (mkF m 25 #[.val (.int p1), .val (.int p2), .val (.int p3), .val (.int p4), .val (.int p5), .val (.int (3 : Int32)), .val (.int vi60), .val (.ref b61)] []))
    refine own_go (fun t_ k => XS.iload X62.here hx rfl (hb hby at_25) rfl k) ?_
    show WP p e below _ (T62.setTop (mkF m 27 #[.val (.int p1), .val (.int p2), .val (.int p3), .val (.int p4), .val (.int p5), .val (.int (3 : Int32)), .val (.int vi60), .val (.ref b61)] [(.int (3 : Int32))]))
    have hc27_63 : ((0 : Int32) < (3 : Int32)) := by decide
    refine own_go (fun t_ k => XS.ifNo X62.here hx rfl (hb hby at_27) rfl ((if0 _ _).trans (tlt hc27_63).2.2.2) k) ?_
    show WP p e below _ (T62.setTop (mkF m 30 #[.val (.int p1), .val (.int p2), .val (.int p3), .val (.int p4), .val (.int p5), .val (.int (3 : Int32)), .val (.int vi60), .val (.ref b61)] []))
    refine own_go (fun t_ k => XS.aload X62.here hx rfl (hb hby at_30) rfl rfl k) ?_
    show WP p e below _ (T62.setTop (mkF m 32 #[.val (.int p1), .val (.int p2), .val (.int p3), .val (.int p4), .val (.int p5), .val (.int (3 : Int32)), .val (.int vi60), .val (.ref b61)] [(.ref b61)]))
    refine own_go (fun t_ k => XS.iloadN X62.here hx rfl (hb hby at_32) rfl k) ?_
    show WP p e below _ (T62.setTop (mkF m 33 #[.val (.int p1), .val (.int p2), .val (.int p3), .val (.int p4), .val (.int p5), .val (.int (3 : Int32)), .val (.int vi60), .val (.ref b61)] [(.int p3), (.ref b61)]))
    obtain ⟨cq64, kq64, q64a, q64b, q64c⟩ := isOf (T := T62) hZ rfl P62.1
    obtain ⟨_, _, ⟨T64, L64, k64, n64⟩, -, X64, ⟨Lc64, hQ64, l64, y64, z64⟩, st64⟩ := X62.virtualBack hx (y := (⟨"com/example/prefold/prefold/passes/IntList", "add", "(I)V"⟩ : MethodName)) (z := (⟨"com/example/prefold/prefold/passes/IntList", "add", "(I)V"⟩ : MethodName)) hown (mvT hZ (hw _ (List.mem_of_getElem? (i := 37) rfl))) (mvT hZ (hw _ (List.mem_of_getElem? (i := 38) rfl))) (notFace_of_selects (args := #[]) (mvT hZ (hw _ (List.mem_of_getElem? (i := 40) rfl)))) (mvT hZ (hw _ (List.mem_of_getElem? (i := 40) rfl))) (mvT hZ (hw _ (List.mem_of_getElem? (i := 39) rfl))) (by decide) (backOf (W := 0) (rm_add l Z a0 hw [] b61 p3 t62 kk62 (0 : Int32) ([] : List Int32) T62.heap n0 P62 g_b61 gt62 (by first | decide | (simp; done)) (by first | rfl | decide)) hZ (hw _ (List.mem_of_getElem? (i := 41) rfl)) (hw _ (List.mem_of_getElem? (i := 3) rfl)) (by decide) (by decide)) q64a q64c (g := (mkF m 33 #[.val (.int p1), .val (.int p2), .val (.int p3), .val (.int p4), .val (.int p5), .val (.int (3 : Int32)), .val (.int vi60), .val (.ref b61)] [(.int p3), (.ref b61)])) rfl (by rw [hml]; rfl) (Steps.refl _) (argsL := [(.int p3)]) (rest := []) (lenOf pd_4 rfl) rfl (by show 2 * 0 + _ ≤ _; exact Nat.le_of_eq rfl) (hb hby at_33) (fun _ _ => ⟨rfl, rfl, (by decide : 2 + 0 ≤ _), (by decide : 6 + 0 ≤ _)⟩)
    dsimp only [Pt.U, Pt.locs, Pt.cells, Pt.slots] at X64 l64 y64 z64 st64 hQ64
    subst l64 y64 z64
    obtain ⟨rfl, N64q, K64c, P64⟩ := hQ64
    have N64 := Fr.app N62 N64q
    replace X64 : Stand p l e room_1 s m _ below meth c T64 _ 2 6 := X64
    refine own_go (fun t_ k => st64.trans k) ?_
    have K64 : Keep h0 T64.heap [] := K62.trans K64c (allS (Or.inr sz_b61) (allS (Or.inr szt62) all0))
    replace P64 : IL Z T64.heap b61 t62 kk62 (1 : Int32) [p3] := P64
    show WP p e below _ (T64.setTop (mkF m 36 #[.val (.int p1), .val (.int p2), .val (.int p3), .val (.int p4), .val (.int p5), .val (.int (3 : Int32)), .val (.int vi60), .val (.ref b61)] []))
    refine own_go (fun t_ k => XS.iload X64.here hx rfl (hb hby at_36) rfl k) ?_
    show WP p e below _ (T64.setTop (mkF m 38 #[.val (.int p1), .val (.int p2), .val (.int p3), .val (.int p4), .val (.int p5), .val (.int (3 : Int32)), .val (.int vi60), .val (.ref b61)] [(.int (3 : Int32))]))
    refine own_go (fun t_ k => XS.iconst X64.here hx rfl (hb hby at_38) k) ?_
    show WP p e below _ (T64.setTop (mkF m 39 #[.val (.int p1), .val (.int p2), .val (.int p3), .val (.int p4), .val (.int p5), .val (.int (3 : Int32)), .val (.int vi60), .val (.ref b61)] [(.int (1 : Int32)), (.int (3 : Int32))]))
    have hc39_65 : ((1 : Int32) < (3 : Int32)) := by decide
    refine own_go (fun t_ k => XS.icmpNo X64.here hx rfl (hb hby at_39) rfl (tlt hc39_65).2.2.2 k) ?_
    show WP p e below _ (T64.setTop (mkF m 42 #[.val (.int p1), .val (.int p2), .val (.int p3), .val (.int p4), .val (.int p5), .val (.int (3 : Int32)), .val (.int vi60), .val (.ref b61)] []))
    refine own_go (fun t_ k => XS.aload X64.here hx rfl (hb hby at_42) rfl rfl k) ?_
    show WP p e below _ (T64.setTop (mkF m 44 #[.val (.int p1), .val (.int p2), .val (.int p3), .val (.int p4), .val (.int p5), .val (.int (3 : Int32)), .val (.int vi60), .val (.ref b61)] [(.ref b61)]))
    refine own_go (fun t_ k => XS.iloadN X64.here hx rfl (hb hby at_44) rfl k) ?_
    show WP p e below _ (T64.setTop (mkF m 45 #[.val (.int p1), .val (.int p2), .val (.int p3), .val (.int p4), .val (.int p5), .val (.int (3 : Int32)), .val (.int vi60), .val (.ref b61)] [(.int p4), (.ref b61)]))
    obtain ⟨cq66, kq66, q66a, q66b, q66c⟩ := isOf (T := T64) hZ rfl P64.1
    obtain ⟨_, _, ⟨T66, L66, k66, n66⟩, -, X66, ⟨Lc66, hQ66, l66, y66, z66⟩, st66⟩ := X64.virtualBack hx (y := (⟨"com/example/prefold/prefold/passes/IntList", "add", "(I)V"⟩ : MethodName)) (z := (⟨"com/example/prefold/prefold/passes/IntList", "add", "(I)V"⟩ : MethodName)) hown (mvT hZ (hw _ (List.mem_of_getElem? (i := 37) rfl))) (mvT hZ (hw _ (List.mem_of_getElem? (i := 38) rfl))) (notFace_of_selects (args := #[]) (mvT hZ (hw _ (List.mem_of_getElem? (i := 40) rfl)))) (mvT hZ (hw _ (List.mem_of_getElem? (i := 40) rfl))) (mvT hZ (hw _ (List.mem_of_getElem? (i := 39) rfl))) (by decide) (backOf (W := 0) (rm_add l Z a0 hw [] b61 p4 t62 kk62 (1 : Int32) [p3] T64.heap n0 P64 g_b61 gt62 (by first | decide | (simp; done)) (by first | rfl | decide)) hZ (hw _ (List.mem_of_getElem? (i := 41) rfl)) (hw _ (List.mem_of_getElem? (i := 3) rfl)) (by decide) (by decide)) q66a q66c (g := (mkF m 45 #[.val (.int p1), .val (.int p2), .val (.int p3), .val (.int p4), .val (.int p5), .val (.int (3 : Int32)), .val (.int vi60), .val (.ref b61)] [(.int p4), (.ref b61)])) rfl (by rw [hml]; rfl) (Steps.refl _) (argsL := [(.int p4)]) (rest := []) (lenOf pd_4 rfl) rfl (by show 2 * 0 + _ ≤ _; exact Nat.le_of_eq rfl) (hb hby at_45) (fun _ _ => ⟨rfl, rfl, (by decide : 2 + 0 ≤ _), (by decide : 6 + 0 ≤ _)⟩)
    dsimp only [Pt.U, Pt.locs, Pt.cells, Pt.slots] at X66 l66 y66 z66 st66 hQ66
    subst l66 y66 z66
    obtain ⟨rfl, N66q, K66c, P66⟩ := hQ66
    have N66 := Fr.app N64 N66q
    replace X66 : Stand p l e room_1 s m _ below meth c T66 _ 2 6 := X66
    refine own_go (fun t_ k => st66.trans k) ?_
    have K66 : Keep h0 T66.heap [] := K64.trans K66c (allS (Or.inr sz_b61) (allS (Or.inr szt62) all0))
    replace P66 : IL Z T66.heap b61 t62 kk62 (2 : Int32) [p3, p4] := P66
    show WP p e below _ (T66.setTop (mkF m 48 #[.val (.int p1), .val (.int p2), .val (.int p3), .val (.int p4), .val (.int p5), .val (.int (3 : Int32)), .val (.int vi60), .val (.ref b61)] []))
    refine own_go (fun t_ k => XS.iload X66.here hx rfl (hb hby at_48) rfl k) ?_
    show WP p e below _ (T66.setTop (mkF m 50 #[.val (.int p1), .val (.int p2), .val (.int p3), .val (.int p4), .val (.int p5), .val (.int (3 : Int32)), .val (.int vi60), .val (.ref b61)] [(.int (3 : Int32))]))
    refine own_go (fun t_ k => XS.iconst X66.here hx rfl (hb hby at_50) k) ?_
    show WP p e below _ (T66.setTop (mkF m 51 #[.val (.int p1), .val (.int p2), .val (.int p3), .val (.int p4), .val (.int p5), .val (.int (3 : Int32)), .val (.int vi60), .val (.ref b61)] [(.int (2 : Int32)), (.int (3 : Int32))]))
    have hc51_67 : ((2 : Int32) < (3 : Int32)) := by decide
    refine own_go (fun t_ k => XS.icmpNo X66.here hx rfl (hb hby at_51) rfl (tlt hc51_67).2.2.2 k) ?_
    show WP p e below _ (T66.setTop (mkF m 54 #[.val (.int p1), .val (.int p2), .val (.int p3), .val (.int p4), .val (.int p5), .val (.int (3 : Int32)), .val (.int vi60), .val (.ref b61)] []))
    refine own_go (fun t_ k => XS.aload X66.here hx rfl (hb hby at_54) rfl rfl k) ?_
    show WP p e below _ (T66.setTop (mkF m 56 #[.val (.int p1), .val (.int p2), .val (.int p3), .val (.int p4), .val (.int p5), .val (.int (3 : Int32)), .val (.int vi60), .val (.ref b61)] [(.ref b61)]))
    refine own_go (fun t_ k => XS.iload X66.here hx rfl (hb hby at_56) rfl k) ?_
    show WP p e below _ (T66.setTop (mkF m 58 #[.val (.int p1), .val (.int p2), .val (.int p3), .val (.int p4), .val (.int p5), .val (.int (3 : Int32)), .val (.int vi60), .val (.ref b61)] [(.int p5), (.ref b61)]))
    obtain ⟨cq68, kq68, q68a, q68b, q68c⟩ := isOf (T := T66) hZ rfl P66.1
    obtain ⟨_, _, ⟨T68, L68, k68, n68⟩, -, X68, ⟨Lc68, hQ68, l68, y68, z68⟩, st68⟩ := X66.virtualBack hx (y := (⟨"com/example/prefold/prefold/passes/IntList", "add", "(I)V"⟩ : MethodName)) (z := (⟨"com/example/prefold/prefold/passes/IntList", "add", "(I)V"⟩ : MethodName)) hown (mvT hZ (hw _ (List.mem_of_getElem? (i := 37) rfl))) (mvT hZ (hw _ (List.mem_of_getElem? (i := 38) rfl))) (notFace_of_selects (args := #[]) (mvT hZ (hw _ (List.mem_of_getElem? (i := 40) rfl)))) (mvT hZ (hw _ (List.mem_of_getElem? (i := 40) rfl))) (mvT hZ (hw _ (List.mem_of_getElem? (i := 39) rfl))) (by decide) (backOf (W := 0) (rm_add l Z a0 hw [] b61 p5 t62 kk62 (2 : Int32) [p3, p4] T66.heap n0 P66 g_b61 gt62 (by first | decide | (simp; done)) (by first | rfl | decide)) hZ (hw _ (List.mem_of_getElem? (i := 41) rfl)) (hw _ (List.mem_of_getElem? (i := 3) rfl)) (by decide) (by decide)) q68a q68c (g := (mkF m 58 #[.val (.int p1), .val (.int p2), .val (.int p3), .val (.int p4), .val (.int p5), .val (.int (3 : Int32)), .val (.int vi60), .val (.ref b61)] [(.int p5), (.ref b61)])) rfl (by rw [hml]; rfl) (Steps.refl _) (argsL := [(.int p5)]) (rest := []) (lenOf pd_4 rfl) rfl (by show 2 * 0 + _ ≤ _; exact Nat.le_of_eq rfl) (hb hby at_58) (fun _ _ => ⟨rfl, rfl, (by decide : 2 + 0 ≤ _), (by decide : 6 + 0 ≤ _)⟩)
    dsimp only [Pt.U, Pt.locs, Pt.cells, Pt.slots] at X68 l68 y68 z68 st68 hQ68
    subst l68 y68 z68
    obtain ⟨rfl, N68q, K68c, P68⟩ := hQ68
    have N68 := Fr.app N66 N68q
    replace X68 : Stand p l e room_1 s m _ below meth c T68 _ 2 6 := X68
    refine own_go (fun t_ k => st68.trans k) ?_
    have K68 : Keep h0 T68.heap [] := K66.trans K68c (allS (Or.inr sz_b61) (allS (Or.inr szt62) all0))
    replace P68 : IL Z T68.heap b61 t62 kk62 (3 : Int32) [p3, p4, p5] := P68
    show WP p e below _ (T68.setTop (mkF m 61 #[.val (.int p1), .val (.int p2), .val (.int p3), .val (.int p4), .val (.int p5), .val (.int (3 : Int32)), .val (.int vi60), .val (.ref b61)] []))
    refine own_go (fun t_ k => XS.aload X68.here hx rfl (hb hby at_61) rfl rfl k) ?_
    show WP p e below _ (T68.setTop (mkF m 63 #[.val (.int p1), .val (.int p2), .val (.int p3), .val (.int p4), .val (.int p5), .val (.int (3 : Int32)), .val (.int vi60), .val (.ref b61)] [(.ref b61)]))
    refine own_go (fun t_ k => XS.iload X68.here hx rfl (hb hby at_63) rfl k) ?_
    show WP p e below _ (T68.setTop (mkF m 65 #[.val (.int p1), .val (.int p2), .val (.int p3), .val (.int p4), .val (.int p5), .val (.int (3 : Int32)), .val (.int vi60), .val (.ref b61)] [(.int vi60), (.ref b61)]))
    obtain ⟨cq69, kq69, q69a, q69b, q69c⟩ := isOf (T := T68) hZ rfl P68.1
    obtain ⟨_, _, ⟨T69, L69, k69, n69⟩, -, X69, ⟨Lc69, hQ69, l69, y69, z69⟩, st69⟩ := X68.virtualBack hx (y := (⟨"com/example/prefold/prefold/passes/IntList", "truncate", "(I)V"⟩ : MethodName)) (z := (⟨"com/example/prefold/prefold/passes/IntList", "truncate", "(I)V"⟩ : MethodName)) hown (mvT hZ (hw _ (List.mem_of_getElem? (i := 13) rfl))) (mvT hZ (hw _ (List.mem_of_getElem? (i := 14) rfl))) (notFace_of_selects (args := #[]) (mvT hZ (hw _ (List.mem_of_getElem? (i := 16) rfl)))) (mvT hZ (hw _ (List.mem_of_getElem? (i := 16) rfl))) (mvT hZ (hw _ (List.mem_of_getElem? (i := 15) rfl))) (by decide) (backOf (W := 0) (rm_tr l Z a0 hw [] b61 vi60 t62 kk62 (3 : Int32) [p3, p4, p5] T68.heap n0 P68 g_b61 (by have b := own_rem 4 4 rfl (by decide) he60; have o : (0 : Int32).toInt = 0 := rfl; rw [Int32.lt_iff_toInt_lt]; omega) (by have b := own_rem 4 4 rfl (by decide) he60; have o : ((3 : Int32) + 1).toInt = 4 := rfl; rw [Int32.lt_iff_toInt_lt]; omega)) hZ (hw _ (List.mem_of_getElem? (i := 17) rfl)) (hw _ (List.mem_of_getElem? (i := 3) rfl)) (by decide) (by decide)) q69a q69c (g := (mkF m 65 #[.val (.int p1), .val (.int p2), .val (.int p3), .val (.int p4), .val (.int p5), .val (.int (3 : Int32)), .val (.int vi60), .val (.ref b61)] [(.int vi60), (.ref b61)])) rfl (by rw [hml]; rfl) (Steps.refl _) (argsL := [(.int vi60)]) (rest := []) (lenOf pd_4 rfl) rfl (by show 2 * 0 + _ ≤ _; exact Nat.le_of_eq rfl) (hb hby at_65) (fun _ _ => ⟨rfl, rfl, (by decide : 2 + 0 ≤ _), (by decide : 6 + 0 ≤ _)⟩)
    dsimp only [Pt.U, Pt.locs, Pt.cells, Pt.slots] at X69 l69 y69 z69 st69 hQ69
    subst l69 y69 z69
    obtain ⟨rfl, N69q, K69c, P69⟩ := hQ69
    have N69 := Fr.app N68 N69q
    replace X69 : Stand p l e room_1 s m _ below meth c T69 _ 2 6 := X69
    refine own_go (fun t_ k => st69.trans k) ?_
    have K69 : Keep h0 T69.heap [] := K68.trans K69c (allS (Or.inr sz_b61) all0)
    show WP p e below _ (T69.setTop (mkF m 68 #[.val (.int p1), .val (.int p2), .val (.int p3), .val (.int p4), .val (.int p5), .val (.int (3 : Int32)), .val (.int vi60), .val (.ref b61)] []))
    refine own_go (fun t_ k => XS.aload X69.here hx rfl (hb hby at_68) rfl rfl k) ?_
    show WP p e below _ (T69.setTop (mkF m 70 #[.val (.int p1), .val (.int p2), .val (.int p3), .val (.int p4), .val (.int p5), .val (.int (3 : Int32)), .val (.int vi60), .val (.ref b61)] [(.ref b61)]))
    obtain ⟨cq70, kq70, q70a, q70b, q70c⟩ := isOf (T := T69) hZ rfl P69.1
    obtain ⟨_, _, ⟨T70, L70, k70, n70⟩, -, X70, ⟨Lc70, hQ70, l70, y70, z70⟩, st70⟩ := X69.virtualBack hx (y := (⟨"com/example/prefold/prefold/passes/IntList", "size", "()I"⟩ : MethodName)) (z := (⟨"com/example/prefold/prefold/passes/IntList", "size", "()I"⟩ : MethodName)) hown (mvT hZ (hw _ (List.mem_of_getElem? (i := 28) rfl))) (mvT hZ (hw _ (List.mem_of_getElem? (i := 29) rfl))) (notFace_of_selects (args := #[]) (mvT hZ (hw _ (List.mem_of_getElem? (i := 31) rfl)))) (mvT hZ (hw _ (List.mem_of_getElem? (i := 31) rfl))) (mvT hZ (hw _ (List.mem_of_getElem? (i := 30) rfl))) (by decide) (backOf (W := 0) (rm_size l Z a0 hw [] b61 t62 kk62 vi60 [p3, p4, p5] T69.heap n0 P69) hZ (hw _ (List.mem_of_getElem? (i := 32) rfl)) (hw _ (List.mem_of_getElem? (i := 3) rfl)) (by decide) (by decide)) q70a q70c (g := (mkF m 70 #[.val (.int p1), .val (.int p2), .val (.int p3), .val (.int p4), .val (.int p5), .val (.int (3 : Int32)), .val (.int vi60), .val (.ref b61)] [(.ref b61)])) rfl (by rw [hml]; rfl) (Steps.refl _) (argsL := []) (rest := []) (lenOf pd_5 rfl) rfl (by show 2 * 0 + _ ≤ _; exact Nat.le_of_eq rfl) (hb hby at_70) (fun _ _ => ⟨rfl, rfl, (by decide : 2 + 0 ≤ _), (by decide : 6 + 0 ≤ _)⟩)
    dsimp only [Pt.U, Pt.locs, Pt.cells, Pt.slots] at X70 l70 y70 z70 st70 hQ70
    subst l70 y70 z70
    obtain ⟨rfl, N70q, e70⟩ := hQ70
    have N70 := Fr.app N69 N70q
    replace X70 : Stand p l e room_1 s m _ below meth c T70 _ 2 6 := X70
    refine own_go (fun t_ k => st70.trans k) ?_
    show WP p e below _ (T70.setTop (mkF m 73 #[.val (.int p1), .val (.int p2), .val (.int p3), .val (.int p4), .val (.int p5), .val (.int (3 : Int32)), .val (.int vi60), .val (.ref b61)] [(.int vi60)]))
    refine own_go (fun t_ k => XS.iload X70.here hx rfl (hb hby at_73) rfl k) ?_
    show WP p e below _ (T70.setTop (mkF m 75 #[.val (.int p1), .val (.int p2), .val (.int p3), .val (.int p4), .val (.int p5), .val (.int (3 : Int32)), .val (.int vi60), .val (.ref b61)] [(.int vi60), (.int vi60)]))
    have hc75_71 : (vi60 = vi60) := rfl
    refine own_go (fun t_ k => XS.icmpYes X70.here hx rfl (pc0 := 75) (pc' := 80) rfl (hb hby at_75) rfl (teq hc75_71).1 (by decide) (by decide) k) ?_
    show WP p e below _ (T70.setTop (mkF m 80 #[.val (.int p1), .val (.int p2), .val (.int p3), .val (.int p4), .val (.int p5), .val (.int (3 : Int32)), .val (.int vi60), .val (.ref b61)] []))
    refine own_go (fun t_ k => XS.aload X70.here hx rfl (hb hby at_80) rfl rfl k) ?_
    show WP p e below _ (T70.setTop (mkF m 82 #[.val (.int p1), .val (.int p2), .val (.int p3), .val (.int p4), .val (.int p5), .val (.int (3 : Int32)), .val (.int vi60), .val (.ref b61)] [(.ref b61)]))
    refine own_go (fun t_ k => XS.iconst X70.here hx rfl (hb hby at_82) k) ?_
    show WP p e below _ (T70.setTop (mkF m 83 #[.val (.int p1), .val (.int p2), .val (.int p3), .val (.int p4), .val (.int p5), .val (.int (3 : Int32)), .val (.int vi60), .val (.ref b61)] [(.int (0 : Int32)), (.ref b61)]))
    refine own_go (fun t_ k => XS.iload X70.here hx rfl (hb hby at_83) rfl k) ?_
    show WP p e below _ (T70.setTop (mkF m 85 #[.val (.int p1), .val (.int p2), .val (.int p3), .val (.int p4), .val (.int p5), .val (.int (3 : Int32)), .val (.int vi60), .val (.ref b61)] [(.int vi60), (.int (0 : Int32)), (.ref b61)]))
    refine own_go (fun t_ k => XS.iloadN X70.here hx rfl (hb hby at_85) rfl k) ?_
    show WP p e below _ (T70.setTop (mkF m 86 #[.val (.int p1), .val (.int p2), .val (.int p3), .val (.int p4), .val (.int p5), .val (.int (3 : Int32)), .val (.int vi60), .val (.ref b61)] [(.int p3), (.int vi60), (.int (0 : Int32)), (.ref b61)]))
    obtain ⟨_, _, ⟨T72, L72, k72, n72⟩, -, X72, ⟨Lc72, hQ72, l72, y72, z72⟩, st72⟩ := Jvm.LawKit.callS X70 hx (y := (⟨"com/example/prefold/prefold/passes/IntListTruncatePinLaw", "kept", "(Lcom/example/prefold/prefold/passes/IntList;III)Z"⟩ : MethodName)) hown (mvT hZ (hw _ (List.mem_of_getElem? (i := 33) rfl))) (mvT hZ (hw _ (List.mem_of_getElem? (i := 34) rfl))) (mvT hZ (hw _ (List.mem_of_getElem? (i := 35) rfl))) (mvT hZ (hw _ (List.mem_of_getElem? (i := 36) rfl))) (by decide) (backOf (W := 0) (rm_kept l Z a0 hw [] b61 (0 : Int32) vi60 p3 t62 kk62 vi60 [p3, p4, p5] T69.heap n0 P69 (by decide) (by decide)) hZ (hw _ (List.mem_of_getElem? (i := 36) rfl)) (hw _ (List.mem_of_getElem? (i := 35) rfl)) (by decide) (by decide)) (g := (mkF m 86 #[.val (.int p1), .val (.int p2), .val (.int p3), .val (.int p4), .val (.int p5), .val (.int (3 : Int32)), .val (.int vi60), .val (.ref b61)] [(.int p3), (.int vi60), (.int (0 : Int32)), (.ref b61)])) rfl (by rw [hml]; rfl) (argsL := [(.ref b61), (.int (0 : Int32)), (.int vi60), (.int p3)]) (rest := []) (lenOf pd_6 rfl) rfl (by show 2 * 0 + _ ≤ _; exact Nat.le_of_eq rfl) (hb hby at_86) (fun _ _ => ⟨rfl, e70, (by decide : 2 + 0 ≤ _), (by decide : 6 + 0 ≤ _)⟩)
    dsimp only [Pt.U, Pt.locs, Pt.cells, Pt.slots] at X72 l72 y72 z72 st72 hQ72
    subst l72 y72 z72
    obtain ⟨rfl, N72q, e72⟩ := hQ72
    have N72 := Fr.app N70 N72q
    replace X72 : Stand p l e room_1 s m _ below meth c T72 _ 2 6 := X72
    refine own_go st72 ?_
    show WP p e below _ (T72.setTop (mkF m 89 #[.val (.int p1), .val (.int p2), .val (.int p3), .val (.int p4), .val (.int p5), .val (.int (3 : Int32)), .val (.int vi60), .val (.ref b61)] [(.int (f7 (0 : Int32) vi60 p3 [p3, p4, p5]))]))
    generalize he73 : (f7 (0 : Int32) vi60 p3 [p3, p4, p5]) = vi73
    show WP p e below _ (T72.setTop (mkF m 89 #[.val (.int p1), .val (.int p2), .val (.int p3), .val (.int p4), .val (.int p5), .val (.int (3 : Int32)), .val (.int vi60), .val (.ref b61)] [(.int vi73)]))
    have J76 : ∀ (T76 : State) (ls76 : List Loc) (X76 : Stand p l e room_1 s m #[(.int p1), (.int p2), (.int p3), (.int p4), (.int p5)] below meth c T76 ls76 2 6) (N76 : Fr n0 ls76) (e76 : T76.heap = T69.heap) (z75_S0 : Int32) (hz75_S0 : z75_S0 = (if vi73 = (0 : Int32) then (0 : Int32) else (if (f7 (1 : Int32) vi60 p4 [p3, p4, p5]) = (0 : Int32) then (0 : Int32) else (if (f7 (2 : Int32) vi60 p5 [p3, p4, p5]) = (0 : Int32) then (0 : Int32) else (1 : Int32))))), WP p e below (GG (Q0 n0) s room_1.cells room_1.slots) (T76.setTop (mkF m 122 #[.val (.int p1), .val (.int p2), .val (.int p3), .val (.int p4), .val (.int p5), .val (.int (3 : Int32)), .val (.int vi60), .val (.ref b61)] [(.int z75_S0)])) := by
      intro T76 ls76 X76 N76 e76 z75_S0 hz75_S0
      show WP p e below _ (T76.setTop (mkF m 122 #[.val (.int p1), .val (.int p2), .val (.int p3), .val (.int p4), .val (.int p5), .val (.int (3 : Int32)), .val (.int vi60), .val (.ref b61)] [(.int z75_S0)]))
      exact own_retZ X76 hx Bd.notSynchronized Bd.returns (hb hby at_122) (by rw [hz75_S0]; (repeat' split); all_goals first | exact Or.inl rfl | exact Or.inr rfl) (show Q0 n0 _ _ _ from ⟨congrArg (fun z => some (Value.int z)) (own_law_4 (p1 := p1) (p2 := p2) (p3 := p3) (p4 := p4) (p5 := p5) he1 he60 he73 hz75_S0 hc75_71), N76⟩) (by decide) (by decide)
    by_cases hc89_74 : vi73 = (0 : Int32)
    · refine own_go (fun t_ k => XS.ifYes X72.here hx rfl (pc0 := 89) (pc' := 121) rfl (hb hby at_89) rfl ((if0 _ _).trans (teq hc89_74).1) (by decide) (by decide) k) ?_
      show WP p e below _ (T72.setTop (mkF m 121 #[.val (.int p1), .val (.int p2), .val (.int p3), .val (.int p4), .val (.int p5), .val (.int (3 : Int32)), .val (.int vi60), .val (.ref b61)] []))
      refine own_go (fun t_ k => XS.iconst X72.here hx rfl (hb hby at_121) k) ?_
      show WP p e below _ (T72.setTop (mkF m 122 #[.val (.int p1), .val (.int p2), .val (.int p3), .val (.int p4), .val (.int p5), .val (.int (3 : Int32)), .val (.int vi60), .val (.ref b61)] [(.int (0 : Int32))]))
      exact J76 T72 _ X72 N72 e72 _ (by rw [if_pos hc89_74])
    · refine own_go (fun t_ k => XS.ifNo X72.here hx rfl (hb hby at_89) rfl ((if0 _ _).trans (feq hc89_74).1) k) ?_
      show WP p e below _ (T72.setTop (mkF m 92 #[.val (.int p1), .val (.int p2), .val (.int p3), .val (.int p4), .val (.int p5), .val (.int (3 : Int32)), .val (.int vi60), .val (.ref b61)] []))
      refine own_go (fun t_ k => XS.aload X72.here hx rfl (hb hby at_92) rfl rfl k) ?_
      show WP p e below _ (T72.setTop (mkF m 94 #[.val (.int p1), .val (.int p2), .val (.int p3), .val (.int p4), .val (.int p5), .val (.int (3 : Int32)), .val (.int vi60), .val (.ref b61)] [(.ref b61)]))
      refine own_go (fun t_ k => XS.iconst X72.here hx rfl (hb hby at_94) k) ?_
      show WP p e below _ (T72.setTop (mkF m 95 #[.val (.int p1), .val (.int p2), .val (.int p3), .val (.int p4), .val (.int p5), .val (.int (3 : Int32)), .val (.int vi60), .val (.ref b61)] [(.int (1 : Int32)), (.ref b61)]))
      refine own_go (fun t_ k => XS.iload X72.here hx rfl (hb hby at_95) rfl k) ?_
      show WP p e below _ (T72.setTop (mkF m 97 #[.val (.int p1), .val (.int p2), .val (.int p3), .val (.int p4), .val (.int p5), .val (.int (3 : Int32)), .val (.int vi60), .val (.ref b61)] [(.int vi60), (.int (1 : Int32)), (.ref b61)]))
      refine own_go (fun t_ k => XS.iloadN X72.here hx rfl (hb hby at_97) rfl k) ?_
      show WP p e below _ (T72.setTop (mkF m 98 #[.val (.int p1), .val (.int p2), .val (.int p3), .val (.int p4), .val (.int p5), .val (.int (3 : Int32)), .val (.int vi60), .val (.ref b61)] [(.int p4), (.int vi60), (.int (1 : Int32)), (.ref b61)]))
      obtain ⟨_, _, ⟨T77, L77, k77, n77⟩, -, X77, ⟨Lc77, hQ77, l77, y77, z77⟩, st77⟩ := Jvm.LawKit.callS X72 hx (y := (⟨"com/example/prefold/prefold/passes/IntListTruncatePinLaw", "kept", "(Lcom/example/prefold/prefold/passes/IntList;III)Z"⟩ : MethodName)) hown (mvT hZ (hw _ (List.mem_of_getElem? (i := 33) rfl))) (mvT hZ (hw _ (List.mem_of_getElem? (i := 34) rfl))) (mvT hZ (hw _ (List.mem_of_getElem? (i := 35) rfl))) (mvT hZ (hw _ (List.mem_of_getElem? (i := 36) rfl))) (by decide) (backOf (W := 0) (rm_kept l Z a0 hw [] b61 (1 : Int32) vi60 p4 t62 kk62 vi60 [p3, p4, p5] T69.heap n0 P69 (by decide) (by decide)) hZ (hw _ (List.mem_of_getElem? (i := 36) rfl)) (hw _ (List.mem_of_getElem? (i := 35) rfl)) (by decide) (by decide)) (g := (mkF m 98 #[.val (.int p1), .val (.int p2), .val (.int p3), .val (.int p4), .val (.int p5), .val (.int (3 : Int32)), .val (.int vi60), .val (.ref b61)] [(.int p4), (.int vi60), (.int (1 : Int32)), (.ref b61)])) rfl (by rw [hml]; rfl) (argsL := [(.ref b61), (.int (1 : Int32)), (.int vi60), (.int p4)]) (rest := []) (lenOf pd_6 rfl) rfl (by show 2 * 0 + _ ≤ _; exact Nat.le_of_eq rfl) (hb hby at_98) (fun _ _ => ⟨rfl, e72, (by decide : 2 + 0 ≤ _), (by decide : 6 + 0 ≤ _)⟩)
      dsimp only [Pt.U, Pt.locs, Pt.cells, Pt.slots] at X77 l77 y77 z77 st77 hQ77
      subst l77 y77 z77
      obtain ⟨rfl, N77q, e77⟩ := hQ77
      have N77 := Fr.app N72 N77q
      replace X77 : Stand p l e room_1 s m _ below meth c T77 _ 2 6 := X77
      refine own_go st77 ?_
      show WP p e below _ (T77.setTop (mkF m 101 #[.val (.int p1), .val (.int p2), .val (.int p3), .val (.int p4), .val (.int p5), .val (.int (3 : Int32)), .val (.int vi60), .val (.ref b61)] [(.int (f7 (1 : Int32) vi60 p4 [p3, p4, p5]))]))
      by_cases hc101_78 : (f7 (1 : Int32) vi60 p4 [p3, p4, p5]) = (0 : Int32)
      · refine own_go (fun t_ k => XS.ifYes X77.here hx rfl (pc0 := 101) (pc' := 121) rfl (hb hby at_101) rfl ((if0 _ _).trans (teq hc101_78).1) (by decide) (by decide) k) ?_
        show WP p e below _ (T77.setTop (mkF m 121 #[.val (.int p1), .val (.int p2), .val (.int p3), .val (.int p4), .val (.int p5), .val (.int (3 : Int32)), .val (.int vi60), .val (.ref b61)] []))
        refine own_go (fun t_ k => XS.iconst X77.here hx rfl (hb hby at_121) k) ?_
        show WP p e below _ (T77.setTop (mkF m 122 #[.val (.int p1), .val (.int p2), .val (.int p3), .val (.int p4), .val (.int p5), .val (.int (3 : Int32)), .val (.int vi60), .val (.ref b61)] [(.int (0 : Int32))]))
        exact J76 T77 _ X77 N77 e77 _ (by rw [if_neg hc89_74, if_pos hc101_78])
      · refine own_go (fun t_ k => XS.ifNo X77.here hx rfl (hb hby at_101) rfl ((if0 _ _).trans (feq hc101_78).1) k) ?_
        show WP p e below _ (T77.setTop (mkF m 104 #[.val (.int p1), .val (.int p2), .val (.int p3), .val (.int p4), .val (.int p5), .val (.int (3 : Int32)), .val (.int vi60), .val (.ref b61)] []))
        refine own_go (fun t_ k => XS.aload X77.here hx rfl (hb hby at_104) rfl rfl k) ?_
        show WP p e below _ (T77.setTop (mkF m 106 #[.val (.int p1), .val (.int p2), .val (.int p3), .val (.int p4), .val (.int p5), .val (.int (3 : Int32)), .val (.int vi60), .val (.ref b61)] [(.ref b61)]))
        refine own_go (fun t_ k => XS.iconst X77.here hx rfl (hb hby at_106) k) ?_
        show WP p e below _ (T77.setTop (mkF m 107 #[.val (.int p1), .val (.int p2), .val (.int p3), .val (.int p4), .val (.int p5), .val (.int (3 : Int32)), .val (.int vi60), .val (.ref b61)] [(.int (2 : Int32)), (.ref b61)]))
        refine own_go (fun t_ k => XS.iload X77.here hx rfl (hb hby at_107) rfl k) ?_
        show WP p e below _ (T77.setTop (mkF m 109 #[.val (.int p1), .val (.int p2), .val (.int p3), .val (.int p4), .val (.int p5), .val (.int (3 : Int32)), .val (.int vi60), .val (.ref b61)] [(.int vi60), (.int (2 : Int32)), (.ref b61)]))
        refine own_go (fun t_ k => XS.iload X77.here hx rfl (hb hby at_109) rfl k) ?_
        show WP p e below _ (T77.setTop (mkF m 111 #[.val (.int p1), .val (.int p2), .val (.int p3), .val (.int p4), .val (.int p5), .val (.int (3 : Int32)), .val (.int vi60), .val (.ref b61)] [(.int p5), (.int vi60), (.int (2 : Int32)), (.ref b61)]))
        obtain ⟨_, _, ⟨T79, L79, k79, n79⟩, -, X79, ⟨Lc79, hQ79, l79, y79, z79⟩, st79⟩ := Jvm.LawKit.callS X77 hx (y := (⟨"com/example/prefold/prefold/passes/IntListTruncatePinLaw", "kept", "(Lcom/example/prefold/prefold/passes/IntList;III)Z"⟩ : MethodName)) hown (mvT hZ (hw _ (List.mem_of_getElem? (i := 33) rfl))) (mvT hZ (hw _ (List.mem_of_getElem? (i := 34) rfl))) (mvT hZ (hw _ (List.mem_of_getElem? (i := 35) rfl))) (mvT hZ (hw _ (List.mem_of_getElem? (i := 36) rfl))) (by decide) (backOf (W := 0) (rm_kept l Z a0 hw [] b61 (2 : Int32) vi60 p5 t62 kk62 vi60 [p3, p4, p5] T69.heap n0 P69 (by decide) (by decide)) hZ (hw _ (List.mem_of_getElem? (i := 36) rfl)) (hw _ (List.mem_of_getElem? (i := 35) rfl)) (by decide) (by decide)) (g := (mkF m 111 #[.val (.int p1), .val (.int p2), .val (.int p3), .val (.int p4), .val (.int p5), .val (.int (3 : Int32)), .val (.int vi60), .val (.ref b61)] [(.int p5), (.int vi60), (.int (2 : Int32)), (.ref b61)])) rfl (by rw [hml]; rfl) (argsL := [(.ref b61), (.int (2 : Int32)), (.int vi60), (.int p5)]) (rest := []) (lenOf pd_6 rfl) rfl (by show 2 * 0 + _ ≤ _; exact Nat.le_of_eq rfl) (hb hby at_111) (fun _ _ => ⟨rfl, e77, (by decide : 2 + 0 ≤ _), (by decide : 6 + 0 ≤ _)⟩)
        dsimp only [Pt.U, Pt.locs, Pt.cells, Pt.slots] at X79 l79 y79 z79 st79 hQ79
        subst l79 y79 z79
        obtain ⟨rfl, N79q, e79⟩ := hQ79
        have N79 := Fr.app N77 N79q
        replace X79 : Stand p l e room_1 s m _ below meth c T79 _ 2 6 := X79
        refine own_go st79 ?_
        show WP p e below _ (T79.setTop (mkF m 114 #[.val (.int p1), .val (.int p2), .val (.int p3), .val (.int p4), .val (.int p5), .val (.int (3 : Int32)), .val (.int vi60), .val (.ref b61)] [(.int (f7 (2 : Int32) vi60 p5 [p3, p4, p5]))]))
        by_cases hc114_80 : (f7 (2 : Int32) vi60 p5 [p3, p4, p5]) = (0 : Int32)
        · refine own_go (fun t_ k => XS.ifYes X79.here hx rfl (pc0 := 114) (pc' := 121) rfl (hb hby at_114) rfl ((if0 _ _).trans (teq hc114_80).1) (by decide) (by decide) k) ?_
          show WP p e below _ (T79.setTop (mkF m 121 #[.val (.int p1), .val (.int p2), .val (.int p3), .val (.int p4), .val (.int p5), .val (.int (3 : Int32)), .val (.int vi60), .val (.ref b61)] []))
          refine own_go (fun t_ k => XS.iconst X79.here hx rfl (hb hby at_121) k) ?_
          show WP p e below _ (T79.setTop (mkF m 122 #[.val (.int p1), .val (.int p2), .val (.int p3), .val (.int p4), .val (.int p5), .val (.int (3 : Int32)), .val (.int vi60), .val (.ref b61)] [(.int (0 : Int32))]))
          exact J76 T79 _ X79 N79 e79 _ (by rw [if_neg hc89_74, if_neg hc101_78, if_pos hc114_80])
        · refine own_go (fun t_ k => XS.ifNo X79.here hx rfl (hb hby at_114) rfl ((if0 _ _).trans (feq hc114_80).1) k) ?_
          show WP p e below _ (T79.setTop (mkF m 117 #[.val (.int p1), .val (.int p2), .val (.int p3), .val (.int p4), .val (.int p5), .val (.int (3 : Int32)), .val (.int vi60), .val (.ref b61)] []))
          refine own_go (fun t_ k => XS.iconst X79.here hx rfl (hb hby at_117) k) ?_
          show WP p e below _ (T79.setTop (mkF m 118 #[.val (.int p1), .val (.int p2), .val (.int p3), .val (.int p4), .val (.int p5), .val (.int (3 : Int32)), .val (.int vi60), .val (.ref b61)] [(.int (1 : Int32))]))
          refine own_go (fun t_ k => XS.goto X79.here hx rfl (pc0 := 118) (pc' := 122) rfl (hb hby at_118) (by decide) (by decide) k) ?_
          show WP p e below _ (T79.setTop (mkF m 122 #[.val (.int p1), .val (.int p2), .val (.int p3), .val (.int p4), .val (.int p5), .val (.int (3 : Int32)), .val (.int vi60), .val (.ref b61)] [(.int (1 : Int32))]))
          exact J76 T79 _ X79 N79 e79 _ (by rw [if_neg hc89_74, if_neg hc101_78, if_neg hc114_80])
set_option maxRecDepth 65536 in
set_option maxHeartbeats 40000000 in
theorem comes_1 {Post : Tables → Env → Array Value → State → Outcome → State → Prop} (hpost : ∀ tb e args s v u, (limb_1_1.after args s (.returned v) u = true ∧ limb_1_2.after args s (.returned v) u = true ∧ True) → FrameEnd s (.returned v) u (Jvm.fieldLocs frame_1_writes args s ++ Jvm.arrayLocs frame_1_arrays args s ++ Jvm.staticLocs frame_1_statics s) 16 128 → Post tb e args s (.returned v) u) :
    ArmFor flags0 classFile x code maxLocals ret World_1 tables_1 room_1 Calls_1 rest_1 Pre_1 Post := by
  intro l hfl _ _ p e ha hc hk s m args below hf hA hF happ hP
  obtain ⟨hcalls, hrest, hpre⟩ := hP
  obtain ⟨-, -, -, hnamed, -, -, -, hat⟩ := (Spec.applies_iff hf).mp happ
  obtain ⟨hg, hn⟩ := and_e (Cond.before_iff.mp (show (Jvm.Cond.and given_1 narrow_1).before args s = true from hpre))
  obtain ⟨g1, g2⟩ := and_e hg
  obtain ⟨g3, g4⟩ := and_e g2
  obtain ⟨g5, g6⟩ := and_e g4
  obtain ⟨g7, g8⟩ := and_e g6
  obtain ⟨g9, g10⟩ := and_e g8
  obtain ⟨w0, w1, w2, w3, w4, rfl⟩ : ∃ w0 w1 w2 w3 w4 : Value, args = #[w0, w1, w2, w3, w4] := by
    have hs : args.size = 5 := by simpa [Cond.value, given_1] using g1
    obtain ⟨L⟩ := args
    match L, hs with
    | [w0, w1, w2, w3, w4], _ => exact ⟨w0, w1, w2, w3, w4, rfl⟩
  have hw := fun d (hd : d ∈ tables_1) => atoms_spec (ws := Jvm.Cond.code x code maxLocals ret :: tables_1) hat d (List.mem_cons_of_mem _ hd)
  have hfit : Fit s := fun {y c} hc i hi => by
    obtain ⟨ha, rfl⟩ := Array.getElem?_eq_some_iff.mp hc
    have q := List.all_eq_true.mp ((Array.all_eq_true_iff_forall_mem.mp hF) _ (Array.getElem_mem ha)) i (List.mem_range.mpr hi)
    simpa [Array.getElem?_eq_getElem hi] using q
  obtain ⟨i0, ei0⟩ := is_v g3
  obtain rfl : w0 = (.int i0) := Option.some.inj ei0
  obtain ⟨i1, ei1⟩ := is_v g5
  obtain rfl : w1 = (.int i1) := Option.some.inj ei1
  obtain ⟨i2, ei2⟩ := is_v g7
  obtain rfl : w2 = (.int i2) := Option.some.inj ei2
  obtain ⟨i3, ei3⟩ := is_v g9
  obtain rfl : w3 = (.int i3) := Option.some.inj ei3
  obtain ⟨i4, ei4⟩ := is_v g10
  obtain rfl : w4 = (.int i4) := Option.some.inj ei4
  obtain ⟨n, o, h1, h2, h3, _, L, rfl, ⟨rfl, N⟩, hq⟩ := rm0 l s _ hw tables_1 i0 i1 i2 i3 i4 s.heap s.heap.size (Nat.le_refl _) p e ha hc hk s m _ below hf ((Spec.applies_iff_loose hf).mp happ).1 ⟨rfl, State.Warmed39.refl s, rfl⟩ trivial
  refine ⟨n, _, h1, h2, h3, hpost _ _ _ _ _ _ ⟨Cond.after_iff.mpr rfl, Cond.after_iff.mpr (eq_i res_at (Term.int_eval (1)) rfl), trivial⟩ ⟨hq.1, hq.2.1, (hq.2.2.sift fun y hy => Or.inr (N y hy)).mono (by decide) (by decide)⟩⟩
theorem main_1_1 : Claimed_1_1 := comes_1 fun _ _ _ _ _ _ h hF => ⟨h.1, hF⟩
theorem main_1_2 : Claimed_1_2 := comes_1 fun _ _ _ _ _ _ h hF => ⟨h.2.1, hF⟩
end Jvm.Pilot.@@N@@
namespace Jvm.Pilot.@@N@@
open Jvm Jvm.ClassFile Sem Op Lib Jvm.Free Jvm.Stand Jvm.Pilot.@@N@@.Jvm.D
/-! MADE BY PROGRAM (witnessworld.py) out of the Statement's table words and the real class files: 11 classes; the members and pool entries that the words name. The judged class is class 1, her method 2. -/
namespace start1
open Jvm.ClassFile
def u (s : String) : CpInfo := .utf8 (stringToUtf16 s)
/-- a pool by its gaps: so many unusable entries, then the entry; so many at the end -/
def gap : Nat → List CpInfo → List CpInfo
  | 0, r => r
  | n + 1, r => .unusable :: gap n r
def poolList (es : List (Nat × CpInfo)) (last : Nat) : List CpInfo := es.foldr (fun e r => gap e.1 (e.2 :: r)) (gap last [])
def pool (es : List (Nat × CpInfo)) (last : Nat) : Array CpInfo := ⟨poolList es last⟩
def fileOf (pool : Array CpInfo) (this : Nat) (attrs : Array Attribute := #[]) (ms : Array MethodInfo := #[]) (fl : Nat := 33) (sup : Nat := 0) (ifs : Array Nat := #[]) (fds : Array FieldInfo := #[]) : ClassFile where
  minorVersion := 0
  majorVersion := 65
  constantPool := pool
  accessFlags := fl
  thisClass := this
  superClass := sup
  interfaces := ifs
  fields := fds
  methods := ms
  attributes := attrs
def plain (name : String) (sup : Option ClassId) : Class where
  name := name
  kind := .ordinary
  loader := none
  accessFlags := 33
  super := sup
  interfaces := #[]
  cf := none
  fields := #[]
  methods := #[]
  instanceTypes := #[]
  staticTypes := #[]
  resolved := #[]
  callSites := []
  init := .initialized
  statics := none
  mirror := none

def pool0 : Array CpInfo := pool [(5, u "<init>"), (0, u "()V"), (1, .class_ 10), (1, u "java/lang/Object")] 113

def k0c0 : Code := { maxStack := 0, maxLocals := 1, code := object_method_1_code, exceptionTable := #[], attributes := #[] }
def k0m0 : Method := { name := "<init>", desc := "()V", sig := { parameters := [], returnType := none }, accessFlags := 1, code := some k0c0 }
/-- java/lang/Object -/
def k0 : Class := { plain "java/lang/Object" none with
  accessFlags := 33
  interfaces := #[]
  cf := some (fileOf pool0 8 #[] #[{ accessFlags := 1, nameIndex := 5, descriptorIndex := 6, attributes := #[] }] 33 0 #[] #[])
  fields := #[]
  methods := #[k0m0]
  instanceTypes := #[]
  staticTypes := #[]
  resolved := Array.replicate 124 none
  statics := none }

def pool1 : Array CpInfo := pool [(2, .class_ 4), (0, .nameAndType 5 6), (0, u "java/lang/Object"), (0, u "<init>"), (0, u "()V"), (0, .methodref 8 9), (0, .class_ 10), (0, .nameAndType 11 12), (0, u "com/example/prefold/prefold/passes/IntList"), (0, u "get"), (0, u "(I)I"), (0, .integer 2147483647), (0, .methodref 8 3), (0, .methodref 8 16), (0, .nameAndType 17 18), (0, u "add"), (0, u "(I)V"), (0, .methodref 8 20), (0, .nameAndType 21 18), (0, u "truncate"), (0, .methodref 8 23), (0, .nameAndType 24 25), (0, u "size"), (0, u "()I"), (0, .methodref 27 28), (0, .class_ 29), (0, .nameAndType 30 31), (0, u "com/example/prefold/prefold/passes/IntListTruncatePinLaw"), (0, u "kept"), (0, u "(Lcom/example/prefold/prefold/passes/IntList;III)Z"), (3, u "law"), (0, u "(IIIII)Z")] 2

def k1m0 : Method := { name := "<init>", desc := "()V", sig := { parameters := [], returnType := none }, accessFlags := 1, code := none }
def k1c1 : Code := { maxStack := 2, maxLocals := 4, code := method_2_code, exceptionTable := #[], attributes := #[] }
def k1m1 : Method := { name := "kept", desc := "(Lcom/example/prefold/prefold/passes/IntList;III)Z", sig := { parameters := [(.object "com/example/prefold/prefold/passes/IntList"), .int, .int, .int], returnType := some .boolean }, accessFlags := 10, code := some k1c1 }
def k1c2 : Code := { maxStack := 4, maxLocals := 8, code := code, exceptionTable := #[], attributes := #[] }
def k1m2 : Method := { name := "law", desc := "(IIIII)Z", sig := { parameters := [.int, .int, .int, .int, .int], returnType := some .boolean }, accessFlags := 9, code := some k1c2 }
/-- com/example/prefold/prefold/passes/IntListTruncatePinLaw -/
def k1 : Class := { plain "com/example/prefold/prefold/passes/IntListTruncatePinLaw" (some 0) with
  accessFlags := 49
  interfaces := #[]
  cf := some (fileOf pool1 27 #[] #[{ accessFlags := 1, nameIndex := 5, descriptorIndex := 6, attributes := #[] }, { accessFlags := 10, nameIndex := 30, descriptorIndex := 31, attributes := #[] }, { accessFlags := 9, nameIndex := 35, descriptorIndex := 36, attributes := #[] }] 49 2 #[] #[])
  fields := #[]
  methods := #[k1m0, k1m1, k1m2]
  instanceTypes := #[]
  staticTypes := #[]
  resolved := Array.replicate 39 none
  statics := none }

def pool2 : Array CpInfo := pool [(1, .methodref 2 3), (0, .class_ 4), (0, .nameAndType 5 6), (0, u "java/lang/Object"), (0, u "<init>"), (0, u "()V"), (0, .fieldref 8 9), (0, .class_ 10), (0, .nameAndType 11 12), (0, u "com/example/prefold/prefold/passes/IntList"), (0, u "values"), (0, u "[I"), (0, .fieldref 8 14), (0, .nameAndType 15 16), (0, u "size"), (0, u "I"), (7, .class_ 26), (1, u "java/util/Objects"), (6, .methodref 24 34), (0, .nameAndType 35 36), (0, u "checkIndex"), (0, u "(II)I"), (8, u "()I"), (0, u "get"), (0, u "(I)I"), (0, u "add"), (0, u "(I)V"), (4, u "truncate")] 5

def k2c0 : Code := { maxStack := 2, maxLocals := 1, code := prog_72_method_1_code, exceptionTable := #[], attributes := #[] }
def k2m0 : Method := { name := "<init>", desc := "()V", sig := { parameters := [], returnType := none }, accessFlags := 0, code := some k2c0 }
def k2c1 : Code := { maxStack := 1, maxLocals := 1, code := prog_72_method_2_code, exceptionTable := #[], attributes := #[] }
def k2m1 : Method := { name := "size", desc := "()I", sig := { parameters := [], returnType := some .int }, accessFlags := 0, code := some k2c1 }
def k2c2 : Code := { maxStack := 2, maxLocals := 2, code := prog_72_method_3_code, exceptionTable := #[], attributes := #[] }
def k2m2 : Method := { name := "get", desc := "(I)I", sig := { parameters := [.int], returnType := some .int }, accessFlags := 0, code := some k2c2 }
def k2c3 : Code := { maxStack := 5, maxLocals := 2, code := prog_72_method_4_code, exceptionTable := #[], attributes := #[] }
def k2m3 : Method := { name := "add", desc := "(I)V", sig := { parameters := [.int], returnType := none }, accessFlags := 0, code := some k2c3 }
def k2c4 : Code := { maxStack := 3, maxLocals := 2, code := prog_72_method_7_code, exceptionTable := #[], attributes := #[] }
def k2m4 : Method := { name := "truncate", desc := "(I)V", sig := { parameters := [.int], returnType := none }, accessFlags := 0, code := some k2c4 }
/-- com/example/prefold/prefold/passes/IntList -/
def k2 : Class := { plain "com/example/prefold/prefold/passes/IntList" (some 0) with
  accessFlags := 48
  interfaces := #[]
  cf := some (fileOf pool2 8 #[] #[{ accessFlags := 0, nameIndex := 5, descriptorIndex := 6, attributes := #[] }, { accessFlags := 0, nameIndex := 15, descriptorIndex := 45, attributes := #[] }, { accessFlags := 0, nameIndex := 46, descriptorIndex := 47, attributes := #[] }, { accessFlags := 0, nameIndex := 48, descriptorIndex := 49, attributes := #[] }, { accessFlags := 0, nameIndex := 54, descriptorIndex := 49, attributes := #[] }] 48 2 #[] #[{ accessFlags := 2, nameIndex := 11, descriptorIndex := 12, attributes := #[] }, { accessFlags := 2, nameIndex := 15, descriptorIndex := 16, attributes := #[] }])
  fields := #[{ name := "values", type := (.array .int), accessFlags := 2, slot := 0, constantValue := 0 }, { name := "size", type := .int, accessFlags := 2, slot := 1, constantValue := 0 }]
  methods := #[k2m0, k2m1, k2m2, k2m3, k2m4]
  instanceTypes := #[(.array .int), .int]
  staticTypes := #[]
  resolved := Array.replicate 60 none
  statics := none }

def pool3 : Array CpInfo := pool [(2, .class_ 4), (1, u "java/lang/Object"), (0, u "<init>"), (0, u "()V"), (35, .class_ 44), (1, u "java/util/Objects"), (60, .methodref 106 107), (0, .class_ 108), (0, .nameAndType 109 110), (0, u "jdk/internal/util/Preconditions"), (0, u "checkIndex"), (0, u "(IILjava/util/function/BiFunction;)I"), (60, u "(II)I")] 12

def k3m0 : Method := { name := "<init>", desc := "()V", sig := { parameters := [], returnType := none }, accessFlags := 2, code := none }
def k3c1 : Code := { maxStack := 3, maxLocals := 2, code := jdk_31_method_17_code, exceptionTable := #[], attributes := #[] }
def k3m1 : Method := { name := "checkIndex", desc := "(II)I", sig := { parameters := [.int, .int], returnType := some .int }, accessFlags := 9, code := some k3c1 }
/-- java/util/Objects -/
def k3 : Class := { plain "java/util/Objects" (some 0) with
  accessFlags := 49
  interfaces := #[]
  cf := some (fileOf pool3 42 #[] #[{ accessFlags := 2, nameIndex := 5, descriptorIndex := 6, attributes := #[] }, { accessFlags := 9, nameIndex := 109, descriptorIndex := 171, attributes := #[] }] 49 2 #[] #[])
  fields := #[]
  methods := #[k3m0, k3m1]
  instanceTypes := #[]
  staticTypes := #[]
  resolved := Array.replicate 184 none
  statics := none }

def pool4 : Array CpInfo := pool [(2, .class_ 4), (1, u "java/lang/Object"), (0, u "<init>"), (0, u "()V"), (17, .class_ 26), (1, u "jdk/internal/util/Preconditions"), (6, u "checkIndex"), (21, .class_ 56), (0, u "jdk/internal/util/Preconditions$4"), (57, .class_ 115), (0, u "jdk/internal/util/Preconditions$1"), (7, u "SIOOBE_FORMATTER"), (0, u "Ljava/util/function/BiFunction;"), (0, .class_ 126), (0, u "jdk/internal/util/Preconditions$2"), (3, u "AIOOBE_FORMATTER"), (0, .class_ 132), (0, u "jdk/internal/util/Preconditions$3"), (3, u "IOOBE_FORMATTER"), (41, u "(IILjava/util/function/BiFunction;)I")] 15

def k4m0 : Method := { name := "<init>", desc := "()V", sig := { parameters := [], returnType := none }, accessFlags := 1, code := none }
def k4c1 : Code := { maxStack := 3, maxLocals := 3, code := jdk_41_method_11_code, exceptionTable := #[], attributes := #[] }
def k4m1 : Method := { name := "checkIndex", desc := "(IILjava/util/function/BiFunction;)I", sig := { parameters := [.int, .int, (.object "java/util/function/BiFunction")], returnType := some .int }, accessFlags := 9, code := some k4c1 }
/-- jdk/internal/util/Preconditions -/
def k4 : Class := { plain "jdk/internal/util/Preconditions" (some 0) with
  accessFlags := 33
  interfaces := #[]
  cf := some (fileOf pool4 24 #[.nestMembers #[55, 131, 125, 114]] #[{ accessFlags := 1, nameIndex := 5, descriptorIndex := 6, attributes := #[] }, { accessFlags := 9, nameIndex := 33, descriptorIndex := 178, attributes := #[] }] 33 2 #[] #[{ accessFlags := 25, nameIndex := 123, descriptorIndex := 124, attributes := #[] }, { accessFlags := 25, nameIndex := 130, descriptorIndex := 124, attributes := #[] }, { accessFlags := 25, nameIndex := 136, descriptorIndex := 124, attributes := #[] }])
  fields := #[{ name := "SIOOBE_FORMATTER", type := (.object "java/util/function/BiFunction"), accessFlags := 25, slot := 0, constantValue := 0 }, { name := "AIOOBE_FORMATTER", type := (.object "java/util/function/BiFunction"), accessFlags := 25, slot := 1, constantValue := 0 }, { name := "IOOBE_FORMATTER", type := (.object "java/util/function/BiFunction"), accessFlags := 25, slot := 2, constantValue := 0 }]
  methods := #[k4m0, k4m1]
  instanceTypes := #[]
  staticTypes := #[(.object "java/util/function/BiFunction"), (.object "java/util/function/BiFunction"), (.object "java/util/function/BiFunction")]
  resolved := Array.replicate 194 none
  statics := none }

def pool5 : Array CpInfo := pool [(1, u "java/lang/Cloneable"), (0, .class_ 1), (0, u "java/lang/Object"), (0, .class_ 3)] 3

/-- java/lang/Cloneable -/
def k5 : Class := { plain "java/lang/Cloneable" (some 0) with
  accessFlags := 1537
  interfaces := #[]
  cf := some (fileOf pool5 2 #[] #[] 1537 4 #[] #[])
  fields := #[]
  methods := #[]
  instanceTypes := #[]
  staticTypes := #[]
  resolved := Array.replicate 8 none
  statics := none }

def pool6 : Array CpInfo := pool [(1, u "java/io/Serializable"), (0, .class_ 1), (0, u "java/lang/Object"), (0, .class_ 3)] 3

/-- java/io/Serializable -/
def k6 : Class := { plain "java/io/Serializable" (some 0) with
  accessFlags := 1537
  interfaces := #[]
  cf := some (fileOf pool6 2 #[] #[] 1537 4 #[] #[])
  fields := #[]
  methods := #[]
  instanceTypes := #[]
  staticTypes := #[]
  resolved := Array.replicate 8 none
  statics := none }

/-- the primitive byte -/
def k7 : Class := { plain "byte" none with kind := .primitive 'B', accessFlags := 0x411 }
/-- [B -/
def k8 : Class := { plain "[B" (some 0) with kind := .array 7 .byte, interfaces := #[5, 6], accessFlags := 1041 }

/-- the primitive int -/
def k9 : Class := { plain "int" none with kind := .primitive 'I', accessFlags := 0x411 }
/-- [I -/
def k10 : Class := { plain "[I" (some 0) with kind := .array 9 .int, interfaces := #[5, 6], accessFlags := 1041 }

def heap : Heap := #[]
def classes : Array Class := #[k0, k1, k2, k3, k4, k5, k6, k7, k8, k9, k10]
def interned : List (Array UInt16 × Addr) := []
def slotsUsed : Nat := 0
def theMethod : MethodId := ⟨1, 2⟩
def args0 : Array Value := #[.int 5, .int 6, .int 7, .int 1, .int 5]
def aboutOver (below : List Frame) : State where
  vm := { classes := classes, interned := interned.toArray }
  heap := heap
  slotsUsed := slotsUsed
  threads := #[{ frames := .invoking theMethod args0 :: below }]
def below0 : List Frame := [.native { method := ⟨0, 0⟩, args := #[] }]
def about1 : State := aboutOver below0
def p0 : Program := .bare "" "" ""
def e0 : Env := launch0.env 0 0 0
theorem w_frames : about1.frames = Frame.invoking theMethod args0 :: below0 := rfl
set_option maxRecDepth 65536 in
theorem w_args : argsFit about1.vm theMethod args0 = true := by decide +kernel
set_option maxRecDepth 65536 in
theorem w_heap : heapFits about1 = true := by decide +kernel
set_option maxRecDepth 65536 in
theorem w_runnable : about1.curStatus? = some .runnable := by decide +kernel
set_option maxRecDepth 65536 in
theorem w_alone : about1.alone = true := by decide +kernel
set_option maxRecDepth 65536 in
theorem w_named : about1.methodNamed? x = some theMethod := by decide +kernel
set_option maxRecDepth 65536 in
theorem w_hears : about1.hears theMethod below0 = true := by decide +kernel
set_option maxRecDepth 65536 in
theorem w_ripe : about1.ripe theMethod args0 below0 = true := by decide +kernel
theorem w_running : about1.status = .running := rfl
set_option maxRecDepth 65536 in
theorem w_room : about1.hasRoom e0.platform room_1 = true :=
  launch0.hasRoom_least _ room_1 (by decide +kernel) (by decide +kernel) (by decide +kernel) (by decide +kernel) (by decide +kernel) (by decide +kernel)
theorem allAtoms_all (ts : List Jvm.Cond) (a : Array Jvm.Value) (st : Jvm.State) : (allAtoms ts).before a st = ts.all (fun c => c.before a st) := by
  induction ts with
  | nil => rfl
  | cons c t ih =>
    show (Jvm.Cond.and c (allAtoms t)).before a st = _
    rw [Jvm.Cond.before_and, ih, List.all_cons]
def words1 : List Jvm.Cond := Jvm.Cond.code x code maxLocals ret :: tables_1
/-- a 'code' word, met by the world's own term for the bytes: nothing is compared byte by byte -/
theorem code_word {y : MethodName} {bytes : ByteArray} {mx : Nat} {rt : Option FieldType} {a : Array Value} {s : State} {m : MethodId} {meth : Method} {c : Code} (h1 : s.methodNamed? y = some m) (h2 : s.vm.method? m = some meth) (h3 : meth.code = some c) (h4 : c.code = bytes)
    (h5 : (c.maxLocals == mx && c.exceptionTable.isEmpty && decide (c.maxStack ≤ mostOperands) && decide (meth.sig.returnType = rt) && !meth.locks && decide (parseMethodDescriptor y.desc = some meth.sig)) = true) : (Jvm.Cond.code y bytes mx rt).before a s = true := by
  simp only [Bool.and_eq_true, beq_iff_eq, Bool.not_eq_true', decide_eq_true_eq] at h5
  obtain ⟨⟨⟨⟨⟨g1, g2⟩, g3⟩, g4⟩, g5⟩, g6⟩ := h5
  simp [Cond.before, Cond.holds, Cond.value, h1, h2, h3, h4, g1, g2, g3, g4, g5, g6]
def isCode : Jvm.Cond → Bool
  | .code _ _ _ _ => true
  | _ => false
theorem all_split {L : List Jvm.Cond} {P : Jvm.Cond → Bool} (h1 : L.all (fun c => isCode c || P c) = true) (h2 : ∀ c ∈ L.filter isCode, P c = true) : L.all P = true := by
  refine List.all_eq_true.mpr fun c hc => ?_
  have h := List.all_eq_true.mp h1 c hc
  rcases Bool.eq_false_or_eq_true (isCode c) with hi | hi
  · exact h2 c (List.mem_filter.mpr ⟨hc, hi⟩)
  · simpa [hi] using h
set_option maxRecDepth 65536 in
theorem w_c0 : (Jvm.Cond.code x code maxLocals ret).before args0 about1 = true := code_word (m := ⟨1, 2⟩) (meth := k1m2) (c := k1c2) (by decide +kernel) rfl rfl rfl (by decide +kernel)
set_option maxRecDepth 65536 in
theorem w_c1 : (Jvm.Cond.code ({ cls := "com/example/prefold/prefold/passes/IntList", name := "<init>", desc := "()V" } : Jvm.MethodName) prog_72_method_1_code (1 : Nat) (Option.none : Option Jvm.ClassFile.FieldType)).before args0 about1 = true := code_word (m := ⟨2, 0⟩) (meth := k2m0) (c := k2c0) (by decide +kernel) rfl rfl rfl (by decide +kernel)
set_option maxRecDepth 65536 in
theorem w_c2 : (Jvm.Cond.code ({ cls := "java/lang/Object", name := "<init>", desc := "()V" } : Jvm.MethodName) object_method_1_code (1 : Nat) (Option.none : Option Jvm.ClassFile.FieldType)).before args0 about1 = true := code_word (m := ⟨0, 0⟩) (meth := k0m0) (c := k0c0) (by decide +kernel) rfl rfl rfl (by decide +kernel)
set_option maxRecDepth 65536 in
theorem w_c3 : (Jvm.Cond.code ({ cls := "com/example/prefold/prefold/passes/IntList", name := "truncate", desc := "(I)V" } : Jvm.MethodName) prog_72_method_7_code (2 : Nat) (Option.none : Option Jvm.ClassFile.FieldType)).before args0 about1 = true := code_word (m := ⟨2, 4⟩) (meth := k2m4) (c := k2c4) (by decide +kernel) rfl rfl rfl (by decide +kernel)
set_option maxRecDepth 65536 in
theorem w_c4 : (Jvm.Cond.code ({ cls := "java/util/Objects", name := "checkIndex", desc := "(II)I" } : Jvm.MethodName) jdk_31_method_17_code (2 : Nat) (Option.some Jvm.ClassFile.FieldType.int)).before args0 about1 = true := code_word (m := ⟨3, 1⟩) (meth := k3m1) (c := k3c1) (by decide +kernel) rfl rfl rfl (by decide +kernel)
set_option maxRecDepth 65536 in
theorem w_c5 : (Jvm.Cond.code ({ cls := "jdk/internal/util/Preconditions", name := "checkIndex", desc := "(IILjava/util/function/BiFunction;)I" } : Jvm.MethodName) jdk_41_method_11_code (3 : Nat) (Option.some Jvm.ClassFile.FieldType.int)).before args0 about1 = true := code_word (m := ⟨4, 1⟩) (meth := k4m1) (c := k4c1) (by decide +kernel) rfl rfl rfl (by decide +kernel)
set_option maxRecDepth 65536 in
theorem w_c6 : (Jvm.Cond.code ({ cls := "com/example/prefold/prefold/passes/IntList", name := "size", desc := "()I" } : Jvm.MethodName) prog_72_method_2_code (1 : Nat) (Option.some Jvm.ClassFile.FieldType.int)).before args0 about1 = true := code_word (m := ⟨2, 1⟩) (meth := k2m1) (c := k2c1) (by decide +kernel) rfl rfl rfl (by decide +kernel)
set_option maxRecDepth 65536 in
theorem w_c7 : (Jvm.Cond.code ({ cls := "com/example/prefold/prefold/passes/IntListTruncatePinLaw", name := "kept", desc := "(Lcom/example/prefold/prefold/passes/IntList;III)Z" } : Jvm.MethodName) method_2_code (4 : Nat) (Option.some Jvm.ClassFile.FieldType.boolean)).before args0 about1 = true := code_word (m := ⟨1, 1⟩) (meth := k1m1) (c := k1c1) (by decide +kernel) rfl rfl rfl (by decide +kernel)
set_option maxRecDepth 65536 in
theorem w_c8 : (Jvm.Cond.code ({ cls := "com/example/prefold/prefold/passes/IntList", name := "add", desc := "(I)V" } : Jvm.MethodName) prog_72_method_4_code (2 : Nat) (Option.none : Option Jvm.ClassFile.FieldType)).before args0 about1 = true := code_word (m := ⟨2, 3⟩) (meth := k2m3) (c := k2c3) (by decide +kernel) rfl rfl rfl (by decide +kernel)
set_option maxRecDepth 65536 in
theorem w_c9 : (Jvm.Cond.code ({ cls := "com/example/prefold/prefold/passes/IntList", name := "get", desc := "(I)I" } : Jvm.MethodName) prog_72_method_3_code (2 : Nat) (Option.some Jvm.ClassFile.FieldType.int)).before args0 about1 = true := code_word (m := ⟨2, 2⟩) (meth := k2m2) (c := k2c2) (by decide +kernel) rfl rfl rfl (by decide +kernel)
def codes1 : List Jvm.Cond := [Jvm.Cond.code x code maxLocals ret, Jvm.Cond.code ({ cls := "com/example/prefold/prefold/passes/IntList", name := "<init>", desc := "()V" } : Jvm.MethodName) prog_72_method_1_code (1 : Nat) (Option.none : Option Jvm.ClassFile.FieldType), Jvm.Cond.code ({ cls := "java/lang/Object", name := "<init>", desc := "()V" } : Jvm.MethodName) object_method_1_code (1 : Nat) (Option.none : Option Jvm.ClassFile.FieldType), Jvm.Cond.code ({ cls := "com/example/prefold/prefold/passes/IntList", name := "truncate", desc := "(I)V" } : Jvm.MethodName) prog_72_method_7_code (2 : Nat) (Option.none : Option Jvm.ClassFile.FieldType), Jvm.Cond.code ({ cls := "java/util/Objects", name := "checkIndex", desc := "(II)I" } : Jvm.MethodName) jdk_31_method_17_code (2 : Nat) (Option.some Jvm.ClassFile.FieldType.int), Jvm.Cond.code ({ cls := "jdk/internal/util/Preconditions", name := "checkIndex", desc := "(IILjava/util/function/BiFunction;)I" } : Jvm.MethodName) jdk_41_method_11_code (3 : Nat) (Option.some Jvm.ClassFile.FieldType.int), Jvm.Cond.code ({ cls := "com/example/prefold/prefold/passes/IntList", name := "size", desc := "()I" } : Jvm.MethodName) prog_72_method_2_code (1 : Nat) (Option.some Jvm.ClassFile.FieldType.int), Jvm.Cond.code ({ cls := "com/example/prefold/prefold/passes/IntListTruncatePinLaw", name := "kept", desc := "(Lcom/example/prefold/prefold/passes/IntList;III)Z" } : Jvm.MethodName) method_2_code (4 : Nat) (Option.some Jvm.ClassFile.FieldType.boolean), Jvm.Cond.code ({ cls := "com/example/prefold/prefold/passes/IntList", name := "add", desc := "(I)V" } : Jvm.MethodName) prog_72_method_4_code (2 : Nat) (Option.none : Option Jvm.ClassFile.FieldType), Jvm.Cond.code ({ cls := "com/example/prefold/prefold/passes/IntList", name := "get", desc := "(I)I" } : Jvm.MethodName) prog_72_method_3_code (2 : Nat) (Option.some Jvm.ClassFile.FieldType.int)]
set_option maxRecDepth 65536 in
theorem codes_eq : words1.filter isCode = codes1 := rfl
theorem w_codes : ∀ c ∈ words1.filter isCode, c.before args0 about1 = true := by
  rw [codes_eq]
  intro c hc
  simp only [codes1, List.mem_cons, List.not_mem_nil, or_false] at hc
  rcases hc with rfl | rfl | rfl | rfl | rfl | rfl | rfl | rfl | rfl | rfl
  · exact w_c0
  · exact w_c1
  · exact w_c2
  · exact w_c3
  · exact w_c4
  · exact w_c5
  · exact w_c6
  · exact w_c7
  · exact w_c8
  · exact w_c9
set_option maxRecDepth 65536 in
theorem w_t1 : (words1.take 24).all (fun c => isCode c || c.before args0 about1) = true := by decide +kernel
set_option maxRecDepth 65536 in
theorem w_t2 : (words1.drop 24).all (fun c => isCode c || c.before args0 about1) = true := by decide +kernel
theorem w_tables : (allAtoms (Jvm.Cond.code x code maxLocals ret :: tables_1)).before args0 about1 = true := by
  rw [allAtoms_all]
  show words1.all (fun c => c.before args0 about1) = true
  refine all_split ?_ w_codes
  rw [← List.take_append_drop 24 words1, List.all_append, w_t1, w_t2]
  rfl
set_option maxRecDepth 65536 in
theorem w_case : (Jvm.Cond.and given_1 narrow_1).before args0 about1 = true := by decide +kernel
theorem w_applies : (headSpec (Jvm.Cond.code x code maxLocals ret :: tables_1) room_1).applies x e0.platform about1 = true :=
  (Spec.applies_iff w_frames).mpr ⟨w_running, w_runnable, w_alone, w_named, w_hears, w_ripe, w_room, w_tables⟩
theorem atStart : AtStart classFile x code maxLocals ret World_1 tables_1 room_1 Calls_1 rest_1 Pre_1 launch0 p0 e0 about1 theMethod args0 below0 :=
  ⟨lists_1, trivial, launch0.admits_env _ _ _, launch0.least_env, fairChoices_fair.cas, fairChoices_fair.clock, w_frames, w_args, w_heap, w_applies, trivial, trivial, w_case⟩
end start1
theorem witness_1 : WitnessClaimed_1 := ⟨start1.p0, start1.e0, start1.about1, start1.theMethod, start1.args0, start1.below0, start1.atStart⟩
end Jvm.Pilot.@@N@@
