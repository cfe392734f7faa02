import JvmDerived
import JvmDerived.Pilot.@@N@@Statement
import JvmDerived.Pilot.@@N@@Code
set_option linter.unusedVariables false
set_option linter.unusedSimpArgs false
namespace Jvm.Pilot.@@N@@
open Jvm Jvm.ClassFile Sem Op Lib Jvm.Free Jvm.Stand Jvm.LawKit Jvm.RoadKit Bundle Jvm.Pilot.@@N@@.Jvm.D
/-! The end of a walk, as a goal: from U the run ends, and G holds of the end. -/
def WP (p : Program) (e : Env) (below : List Frame) (G : State → Outcome → Prop) (U : State) : Prop :=
  ∃ s₂ o, Steps p.tables e below U s₂ ∧ s₂.status = .running ∧ Ended s₂ below o ∧ G s₂ o
def GG (Q : Option Value → Heap → List Loc → Prop) (s : State) (k n : Nat) : State → Outcome → Prop :=
  fun t o => ∃ v L, o = .returned v ∧ Q v t.heap L ∧ FrameEnd s o t L k n
theorem own_go {p : Program} {e : Env} {below : List Frame} {G : State → Outcome → Prop} {U V : State} (h : ∀ t, Steps p.tables e below V t → Steps p.tables e below U t) (w : WP p e below G V) : WP p e below G U := by
  obtain ⟨t, o, h1, h2⟩ := w
  exact ⟨t, o, h _ h1, h2⟩
/-- what a body that writes nothing leaves -/
def PQ (h0 : Heap) (n0 : Nat) (w : Value) (v : Option Value) (h : Heap) (L : List Loc) : Prop := v = some w ∧ Fr n0 L ∧ h = h0
/-- what the law leaves -/
def Q0 (n0 : Nat) (v : Option Value) (h : Heap) (L : List Loc) : Prop := v = some (.int 1) ∧ Fr n0 L
section Own
variable {p : Program} {l : Launch} {e : Env} {R : Room} {s : State} {m : MethodId} {args : Array Value} {below : List Frame} {meth : Method} {c : Code} {T : State} {locs : List Loc} {cells slots : Nat}
theorem own_mono (X : Stand p l e R s m args below meth c T locs cells slots) {k n : Nat} (h1 : cells ≤ k) (h2 : slots ≤ n) : Stand p l e R s m args below meth c T locs k n :=
  ⟨X.admits, X.cas, X.clock, X.frames, X.room, X.hears, X.method, X.code, X.here, X.tail, X.warmed, X.limits, X.bytes, X.same.mono h1 h2⟩
theorem own_retI (X : Stand p l e R s m args below meth c T locs cells slots) (hx : p.tables.exec = Jvm.exec) (hnl : meth.locks = false) (hret : meth.sig.returnType = some .int) {pc : Nat} {Ls : Array Slot} {z : Int32} {rest : List Value} (hd : decode c.code pc = .ok (.ireturn, 1)) {Q : Option Value → Heap → List Loc → Prop} {k n : Nat}
    (hq : Q (some (.int z)) T.heap locs) (hc : cells ≤ k) (hs : slots ≤ n) : WP p e below (GG Q s k n) (T.setTop (mkF m pc Ls (.int z :: rest))) := by
  obtain ⟨fs, hr, hrun, hended, hW, hsame⟩ := X.leave (v := some (.int z)) (fun h => by rw [hret] at h; cases h) hnl
  exact ⟨_, _, retOut X hx hret rfl (Or.inl ⟨rfl, Or.inl rfl, z, rfl⟩) hd hr, hrun, hended, _, _, rfl, hq, ⟨_, rfl⟩, hW, hsame.mono hc hs⟩
theorem own_retN (X : Stand p l e R s m args below meth c T locs cells slots) (hx : p.tables.exec = Jvm.exec) (hnl : meth.locks = false) {t : FieldType} (hret : meth.sig.returnType = some t) (ht : t = .boolean ∨ t = .byte ∨ t = .char ∨ t = .short) {pc : Nat} {Ls : Array Slot} {z : Int32} {rest : List Value} (hd : decode c.code pc = .ok (.ireturn, 1)) {Q : Option Value → Heap → List Loc → Prop} {k n : Nat}
    (hq : Q (some (.int (nar t z))) T.heap locs) (hc : cells ≤ k) (hs : slots ≤ n) : WP p e below (GG Q s k n) (T.setTop (mkF m pc Ls (.int z :: rest))) := by
  obtain ⟨fs, hr, hrun, hended, hW, hsame⟩ := X.leave (v := some (.int (nar t z))) (fun h => by rw [hret] at h; cases h) hnl
  exact ⟨_, _, retN X hx hret ht hd hr, hrun, hended, _, _, rfl, hq, ⟨_, rfl⟩, hW, hsame.mono hc hs⟩
theorem own_retZ (X : Stand p l e R s m args below meth c T locs cells slots) (hx : p.tables.exec = Jvm.exec) (hnl : meth.locks = false) (hret : meth.sig.returnType = some .boolean) {pc : Nat} {Ls : Array Slot} {z : Int32} {rest : List Value} (hd : decode c.code pc = .ok (.ireturn, 1)) (hz : z = 0 ∨ z = 1) {Q : Option Value → Heap → List Loc → Prop} {k n : Nat}
    (hq : Q (some (.int z)) T.heap locs) (hc : cells ≤ k) (hs : slots ≤ n) : WP p e below (GG Q s k n) (T.setTop (mkF m pc Ls (.int z :: rest))) := by
  have hb : nar .boolean z = z := by rcases hz with rfl | rfl <;> rfl
  exact own_retN X hx hnl hret (Or.inl rfl) hd (by rw [hb]; exact hq) hc hs
theorem own_retC (X : Stand p l e R s m args below meth c T locs cells slots) (hx : p.tables.exec = Jvm.exec) (hnl : meth.locks = false) (hret : meth.sig.returnType = some .char) {pc : Nat} {Ls : Array Slot} {z : Int32} {rest : List Value} (hd : decode c.code pc = .ok (.ireturn, 1)) {Q : Option Value → Heap → List Loc → Prop} {k n : Nat}
    (hq : Q (some (.int z.toUInt32.toUInt16.toUInt32.toInt32)) T.heap locs) (hc : cells ≤ k) (hs : slots ≤ n) : WP p e below (GG Q s k n) (T.setTop (mkF m pc Ls (.int z :: rest))) :=
  own_retN X hx hnl hret (Or.inr (Or.inr (Or.inl rfl))) hd hq hc hs
theorem own_retB (X : Stand p l e R s m args below meth c T locs cells slots) (hx : p.tables.exec = Jvm.exec) (hnl : meth.locks = false) (hret : meth.sig.returnType = some .byte) {pc : Nat} {Ls : Array Slot} {z : Int32} {rest : List Value} (hd : decode c.code pc = .ok (.ireturn, 1)) {Q : Option Value → Heap → List Loc → Prop} {k n : Nat}
    (hq : Q (some (.int z.toInt8.toInt32)) T.heap locs) (hc : cells ≤ k) (hs : slots ≤ n) : WP p e below (GG Q s k n) (T.setTop (mkF m pc Ls (.int z :: rest))) :=
  own_retN X hx hnl hret (Or.inr (Or.inl rfl)) hd hq hc hs
theorem own_retJ (X : Stand p l e R s m args below meth c T locs cells slots) (hx : p.tables.exec = Jvm.exec) (hnl : meth.locks = false) (hret : meth.sig.returnType = some .long) {pc : Nat} {Ls : Array Slot} {z : Int64} {rest : List Value} (hd : decode c.code pc = .ok (.lreturn, 1)) {Q : Option Value → Heap → List Loc → Prop} {k n : Nat}
    (hq : Q (some (.long z)) T.heap locs) (hc : cells ≤ k) (hs : slots ≤ n) : WP p e below (GG Q s k n) (T.setTop (mkF m pc Ls (.long z :: rest))) := by
  obtain ⟨fs, hr, hrun, hended, hW, hsame⟩ := X.leave (v := some (.long z)) (fun h => by rw [hret] at h; cases h) hnl
  exact ⟨_, _, retOut X hx hret rfl (Or.inr (Or.inl ⟨rfl, rfl, z, rfl⟩)) hd hr, hrun, hended, _, _, rfl, hq, ⟨_, rfl⟩, hW, hsame.mono hc hs⟩
theorem own_retA (X : Stand p l e R s m args below meth c T locs cells slots) (hx : p.tables.exec = Jvm.exec) (hnl : meth.locks = false) {t : FieldType} (hret : meth.sig.returnType = some t) (ht : t.isReference = true) {pc : Nat} {Ls : Array Slot} {w : Value} (hw : w.isRef = true) {rest : List Value} (hd : decode c.code pc = .ok (.areturn, 1)) {Q : Option Value → Heap → List Loc → Prop} {k n : Nat}
    (hq : Q (some w) T.heap locs) (hc : cells ≤ k) (hs : slots ≤ n) : WP p e below (GG Q s k n) (T.setTop (mkF m pc Ls (w :: rest))) := by
  obtain ⟨fs, hr, hrun, hended, hW, hsame⟩ := X.leave (v := some w) (fun h => by rw [hret] at h; cases h) hnl
  have hn : narrow t w = w := by cases t <;> first | rfl | (simp [FieldType.isReference] at ht)
  exact ⟨_, _, retOut X hx hret hn (Or.inr (Or.inr (Or.inr (Or.inr ⟨rfl, ht, hw⟩)))) hd hr, hrun, hended, _, _, rfl, hq, ⟨_, rfl⟩, hW, hsame.mono hc hs⟩
theorem own_ret0 (X : Stand p l e R s m args below meth c T locs cells slots) (hx : p.tables.exec = Jvm.exec) (hnl : meth.locks = false) (hret : meth.sig.returnType = none) {pc : Nat} {Ls : Array Slot} (hd : decode c.code pc = .ok (.return_, 1)) {Q : Option Value → Heap → List Loc → Prop} {k n : Nat}
    (hq : Q none T.heap locs) (hc : cells ≤ k) (hs : slots ≤ n) : WP p e below (GG Q s k n) (T.setTop (mkF m pc Ls [])) := by
  obtain ⟨fs, hr, hrun, hended, hW, hsame⟩ := X.leave (v := none) (fun _ => rfl) hnl
  exact ⟨_, _, X.returnOut hx hret hd hr, hrun, hended, _, _, rfl, hq, ⟨_, rfl⟩, hW, hsame.mono hc hs⟩
/-- the end of a walk that may have interned -/
def GGW (Q : Option Value → Heap → List Loc → Prop) (s : State) (k n : Nat) : State → Outcome → Prop :=
  fun t o => ∃ v L, o = .returned v ∧ Q v t.heap L ∧ ReturnedEndW s o t L k n
theorem own_toW {Q Q1 : Option Value → Heap → List Loc → Prop} {vm1 : Vm} {k1 k n : Nat} {U : State} (hS : s.Since vm1 k1) (hQ : ∀ v h L, Q1 v h L → Q v h L ∧ k1 ≤ h.size) (w : WP p e below (GG Q1 (s.setVm vm1) k n) U) : WP p e below (GGW Q s k n) U := by
  obtain ⟨t, o, h1, h2, h3, v, L, rfl, hq, hF⟩ := w
  obtain ⟨hq0, hk⟩ := hQ _ _ _ hq
  obtain ⟨a, b, c⟩ := hS.ended hF.2.1 hk hF.2.2
  exact ⟨t, _, h1, h2, h3, v, L, rfl, hq0, ⟨v, rfl⟩, a, b, c⟩
/-- a call's end without equations -/
theorem own_un (X : Stand p l e R s m args below meth c T locs cells slots) (a b : Nat) {Wv : Vm → Prop} {Q : Option Value → Heap → List Loc → Prop} {St : Option Value → Pt → Prop}
    (h : ∃ (v : Option Value) (vm₁ : Vm) (B : Pt), Wv vm₁ ∧ Stand p l e R s m args below meth c B.U B.locs B.cells B.slots ∧ (∃ L, Q v B.U.heap L ∧ B.locs = locs ++ L ∧ B.cells = cells + a ∧ B.slots = slots + b) ∧ St v B) :
    ∃ (v : Option Value) (T' : State) (L : List Loc), Stand p l e R s m args below meth c T' (locs ++ L) (cells + a) (slots + b) ∧ Q v T'.heap L ∧ St v ⟨T', locs ++ L, cells + a, slots + b⟩ := by
  obtain ⟨v, vm₁, ⟨T', L', k', n'⟩, -, X', ⟨L, hq, h1, h2, h3⟩, hs⟩ := h
  replace h1 : L' = locs ++ L := h1
  replace h2 : k' = cells + a := h2
  replace h3 : n' = slots + b := h3
  subst h1 h2 h3
  exact ⟨v, T', L, X', hq, hs⟩
/-- a method whose class some selection lands in is no interface's -/
theorem own_nf {C : String} {y z y' : MethodName} (hsel : (Cond.selects C y z).before args s = true) (hc : z.cls = y'.cls) : NotFace s y' := fun r0 h0 => by
  obtain ⟨c2, r2, m2, q1, q2, q3, q4, kP, hkP, hkPi⟩ := Cond.selects_spec hsel
  have a := findClass_of_methodNamed h0
  have b := findClass_of_methodNamed q3
  rw [hc] at b
  have r : r0.cls = m2.cls := Option.some.inj (a.symm.trans b)
  exact ⟨kP, r ▸ hkP, hkPi⟩
theorem own_same {y : MethodName} (wi : (Cond.instanceMethod y).before args s = true) (nf : NotFace s y) (hy : y.cls ≠ "java/lang/invoke/MethodHandle" ∧ y.cls ≠ "java/lang/invoke/VarHandle") : (Cond.sameMethod y.cls y.cls y.name y.desc).before args s = true := by
  obtain ⟨m, meth, hn, hm, -, -⟩ := Cond.instanceMethod_spec wi
  obtain ⟨kP, hkP, hkPi⟩ := nf m hn
  have hc := findClass_of_methodNamed hn
  have hf := State.methodFound?_of_named hn hy
  simp only [Cond.before, Cond.holds, Cond.value, hc, hf, show (⟨y.cls, y.name, y.desc⟩ : MethodName) = y from rfl, hn, hkP]
  simp [hkPi]
end Own

section Held0
variable {p : Program} {l : Launch} {e : Env} {R : Room} {s : State} {m : MethodId} {args : Array Value} {below : List Frame} {meth : Method} {c : Code} {T : State} {locs : List Loc} {cells slots : Nat} {Z : State} {a0 : Array Value} {EL : List (String × Nat)} {h h' : Heap} {vm vm' vm1 : Vm}
def GGH (Q : Option Value → Heap → List Loc → Prop) (s Z : State) (EL : List (String × Nat)) (k n : Nat) : State → Outcome → Prop :=
  fun t o => ∃ v L, o = .returned v ∧ Q v t.heap L ∧ CHr Z EL s.vm s.heap t.vm t.heap ∧ ReturnedEndW s o t L k n
theorem own_unS (X : Stand p l e R s m args below meth c T locs cells slots) (a b : Nat) {Wv : Vm → Prop} {Q : Option Value → Heap → List Loc → Prop} {CR : Vm → Heap → Prop} {St : Option Value → Pt → Prop}
    (h : ∃ (v : Option Value) (vm₁ : Vm) (B : Pt), Wv vm₁ ∧ Stand p l e R (s.setVm B.U.vm) m args below meth c B.U B.locs B.cells B.slots ∧ s.Since B.U.vm B.U.heap.size ∧ T.heap.size ≤ B.U.heap.size ∧ (∃ L, Q v B.U.heap L ∧ B.locs = locs ++ L ∧ B.cells = cells + a ∧ B.slots = slots + b ∧ CR B.U.vm B.U.heap) ∧ St v B) :
    ∃ (v : Option Value) (T' : State) (L : List Loc), Stand p l e R (s.setVm T'.vm) m args below meth c T' (locs ++ L) (cells + a) (slots + b) ∧ s.Since T'.vm T'.heap.size ∧ T.heap.size ≤ T'.heap.size ∧ Q v T'.heap L ∧ CR T'.vm T'.heap ∧ St v ⟨T', locs ++ L, cells + a, slots + b⟩ := by
  obtain ⟨v, vm₁, ⟨T', L', k', n'⟩, -, X', hS, hz, ⟨L, hq, h1, h2, h3, hc⟩, hs⟩ := h
  replace h1 : L' = locs ++ L := h1
  replace h2 : k' = cells + a := h2
  replace h3 : n' = slots + b := h3
  subst h1 h2 h3
  exact ⟨v, T', L, X', hS, hz, hq, hc, hs⟩
theorem own_hZ {k : Nat} (hZ : Z.Warmed39 s.vm) (S : s.Since vm k) : Z.Warmed39 vm := State.Warmed39.trans hZ S.1
theorem own_hown {k : Nat} {own : String} {i : ClassId} (hown : s.vm.findClass own = some i) (S : s.Since vm k) : vm.findClass own = some i := by rw [S.1.alike.findClass]; exact hown
theorem own_wrsz {a : Addr} {sl : Nat} {v : Value} (W : Wr h h' a sl v) : h.size ≤ h'.size := by
  obtain ⟨c, -, -, -, rfl⟩ := W
  simp
theorem own_retWZ (X : Stand p l e R (s.setVm vm1) m args below meth c T locs cells slots) {k1 : Nat} (hS : s.Since vm1 k1) (hk : k1 ≤ T.heap.size) (hx : p.tables.exec = Jvm.exec) (hnl : meth.locks = false) (hret : meth.sig.returnType = some .boolean) {pc : Nat} {Ls : Array Slot} {z : Int32} {rest : List Value} (hd : decode c.code pc = .ok (.ireturn, 1)) (hz : z = 0 ∨ z = 1) {Q : Option Value → Heap → List Loc → Prop} {k n : Nat}
    (hq : Q (some (.int z)) T.heap locs) (hc : cells ≤ k) (hs : slots ≤ n) : WP p e below (GGW Q s k n) (T.setTop (mkF m pc Ls (.int z :: rest))) := by
  have hb : nar .boolean z = z := by rcases hz with rfl | rfl <;> rfl
  obtain ⟨fs, hr, hrun, hended, hW1, hW2, hW3, hsame⟩ := X.leaveW hS hk (v := some (.int (nar .boolean z))) (fun h => by rw [hret] at h; cases h) hnl
  exact ⟨_, _, retN X hx hret (Or.inl rfl) hd hr, hrun, hended, _, _, rfl, by rw [hb]; exact hq, ⟨_, rfl⟩, hW2, hW3, hsame.mono hc hs⟩
theorem own_retHA (X : Stand p l e R (s.setVm vm1) m args below meth c T locs cells slots) {k1 : Nat} (hS : s.Since vm1 k1) (hk : k1 ≤ T.heap.size) (hx : p.tables.exec = Jvm.exec) (hnl : meth.locks = false) {t : FieldType} (hret : meth.sig.returnType = some t) (ht : t.isReference = true) {pc : Nat} {Ls : Array Slot} {w : Value} (hw : w.isRef = true) {rest : List Value} (hd : decode c.code pc = .ok (.areturn, 1)) {Q : Option Value → Heap → List Loc → Prop} {k n : Nat}
    (hq : Q (some w) T.heap locs) (hch : CHr Z EL s.vm s.heap T.vm T.heap) (hc : cells ≤ k) (hs : slots ≤ n) : WP p e below (GGH Q s Z EL k n) (T.setTop (mkF m pc Ls (w :: rest))) := by
  obtain ⟨fs, hr, hrun, hended, hW1, hW2, hW3, hsame⟩ := X.leaveW hS hk (v := some w) (fun h => by rw [hret] at h; cases h) hnl
  have hn : narrow t w = w := by cases t <;> first | rfl | (simp [FieldType.isReference] at ht)
  exact ⟨_, _, retOut X hx hret hn (Or.inr (Or.inr (Or.inr (Or.inr ⟨rfl, ht, hw⟩)))) hd hr, hrun, hended, _, _, rfl, hq, hch, ⟨_, rfl⟩, hW2, hW3, hsame.mono hc hs⟩
theorem own_retH0 (X : Stand p l e R (s.setVm vm1) m args below meth c T locs cells slots) {k1 : Nat} (hS : s.Since vm1 k1) (hk : k1 ≤ T.heap.size) (hx : p.tables.exec = Jvm.exec) (hnl : meth.locks = false) (hret : meth.sig.returnType = none) {pc : Nat} {Ls : Array Slot} (hd : decode c.code pc = .ok (.return_, 1)) {Q : Option Value → Heap → List Loc → Prop} {k n : Nat}
    (hq : Q none T.heap locs) (hch : CHr Z EL s.vm s.heap T.vm T.heap) (hc : cells ≤ k) (hs : slots ≤ n) : WP p e below (GGH Q s Z EL k n) (T.setTop (mkF m pc Ls [])) := by
  obtain ⟨fs, hr, hrun, hended, hW1, hW2, hW3, hsame⟩ := X.leaveW hS hk (v := none) (fun _ => rfl) hnl
  exact ⟨_, _, X.returnOut hx hret hd hr, hrun, hended, _, _, rfl, hq, hch, ⟨_, rfl⟩, hW2, hW3, hsame.mono hc hs⟩
theorem own_plainH {U : State} (hZ : Z.Warmed39 U.vm) (w : EW Z a0 EL) (H : CHv Z EL U.vm h) (K : Keep h h' []) (hW : U.WarmedH vm') : CHr Z EL U.vm h vm' h' := by
  have A := CHr.keep K sf0 H
  refine A.trans ?_
  have q := CHv.later (h' := h') hZ (hW := (show (Wst Z U.vm h').Warmed39 vm' from hW.wide)) w ⟨Nat.le_refl _, fun _ _ q => q⟩ (Or.inl hW.interned_eq) A.1
  exact ⟨q.1, Nat.le_refl _, q.2⟩
theorem own_metH {y : MethodName} {S : Spec} {A : Array Value} {Q : Option Value → Heap → List Loc → Prop} {k n : Nat} (hm : MetFree l y S (fun a U => a = A ∧ Z.Warmed39 U.vm ∧ U.heap = h) (fun _ _ _ _ _ => True) (fun _ U o U' => ∃ v L, o = .returned v ∧ Q v U'.heap L ∧ FrameEnd U o U' L k n)) (w : EW Z a0 EL) (hK : ∀ v h' L, Q v h' L → Keep h h' []) :
    MetFree l y S (fun a U => a = A ∧ Z.Warmed39 U.vm ∧ U.heap = h ∧ CHv Z EL U.vm h) (fun _ _ _ _ _ => True) (fun _ U o U' => ∃ v L, o = .returned v ∧ Q v U'.heap L ∧ CHr Z EL U.vm U.heap U'.vm U'.heap ∧ ReturnedEndW U o U' L k n) :=
  hm.mono (fun _ _ q => ⟨q.1, q.2.1, q.2.2.1⟩) (fun _ _ _ _ _ q => q) (fun a s o s' hp ⟨v, L, h1, h2, h3⟩ => ⟨v, L, h1, h2, by rw [hp.2.2.1]; exact own_plainH hp.2.1 w hp.2.2.2 (hK _ _ _ h2) h3.2.1, h3.1, h3.2.1.wide, h3.2.1.no_new_pair _, h3.2.2⟩)
/-- a String whose value is null yet is none of the constants -/
theorem own_safeNull {x : Addr} (hal : Z.vm.Alike vm) (E : Exa Z h x "java/lang/String") (F : Fld Z h x "java/lang/String" "value" "[B" .null) : Safe Z EL vm h x := fun B => by
  obtain ⟨cell, k, e1, e2, e3, -, -⟩ := E
  obtain ⟨cell2, cf, k2, i2, f2, g1, g2, g3, g4, g5, g6, g7⟩ := F
  cases e1.symm.trans g1
  obtain ⟨pp, -, u, a, -, q, -, ⟨cS, ⟨⟨s1, s2, s3, ⟨cv, kv, iv, s4, s4'⟩, ⟨cc, kc, ic, s5, s5'⟩, s6, s7, s8, s9, s10, s11, s12, s13, s14, s15, s16⟩, hfS, hcS⟩, -, hB, -⟩, rfl | rfl⟩ := B
  · cases (show h[q.sa]? = some q.sC from s1).symm.trans e1
    obtain ⟨kv', z4⟩ := ff_back (U := Wst Z vm h) hal s4
    cases g2.symm.trans z4
    have z8 := g7.symm.trans s8
    cases z8
  · cases (show h[q.sd]? = some q.SA from s10).symm.trans e1
    have f : vm.findClass "[B" = some q.SA.cls := hB
    rw [hal.findClass] at f
    obtain ⟨k1, q1, q2⟩ := Vm.findClass_spec f
    obtain ⟨k3, q3, q4⟩ := Vm.findClass_spec e2
    cases q1.symm.trans q3
    have z := q2.symm.trans q4
    exact absurd z (by decide)
end Held0

def Plain (h : Heap) (a : Addr) : Prop := ∃ c : Cell, h[a]? = some c ∧ c.vm.isStatics = false
theorem own_pl0 {h : Heap} : ∀ x ∈ ([] : List Addr), Plain h x := fun _ q => by cases q
theorem own_plS {h : Heap} {a : Addr} {l : List Addr} (q : Plain h a) (H : ∀ x ∈ l, Plain h x) : ∀ x ∈ a :: l, Plain h x := fun x hx => (List.mem_cons.mp hx).elim (fun e => e ▸ q) (H x)
theorem own_plE {Z : State} {h : Heap} {a : Addr} {K : String} (E : Exa Z h a K) : Plain h a := by
  obtain ⟨c, k, h1, h2, h3, h4, h5⟩ := E
  exact ⟨c, h1, h4⟩
theorem own_plV {Z : State} {h : Heap} {a : Addr} {k : ClassId} {ty : FieldType} {z : Int32} {vs : List Value} {dv : Value} (V : Arv Z h a k ty z vs dv) : Plain h a := by
  obtain ⟨c, A, -⟩ := V
  exact ⟨c, A.1, A.plain⟩
theorem own_sta_k {Z : State} {h h' : Heap} {C n d : String} {v : Value} {ws : List Addr} (S : Sta Z h C n d v) (K : Keep h h' ws) (H : ∀ x ∈ ws, Plain h x) : Sta Z h' C n d v := by
  obtain ⟨cf, i, kk, f, st, cell, h1, h2, h3, h4, h5, h6, h7⟩ := S
  refine ⟨cf, i, kk, f, st, cell, h1, h2, h3, h4, K.2.1 st cell h5 (fun hm => ?_), h6, h7⟩
  obtain ⟨c, q1, q2⟩ := H st hm
  cases q1.symm.trans h5
  rw [q2] at h6; cases h6
theorem own_priv {s : State} {args : Array Value} {y z z' : MethodName} {C : String} (hsel : (Cond.selects C z z').before args s = true) (hz : z'.cls = y.cls) (hpriv : s.PrivateAt y) (hinst : (Cond.instanceMethod y).before args s = true) (hy : y.cls ≠ "java/lang/invoke/MethodHandle" ∧ y.cls ≠ "java/lang/invoke/VarHandle") : (Cond.selects y.cls y y).before args s = true := by
  obtain ⟨c2, r2, m2, q1, q2, q3, q4, kP, hkP, hkPi⟩ := Cond.selects_spec hsel
  exact selects_self_of_private (by rw [← hz]; exact findClass_of_methodNamed q3) hkP hkPi hpriv hinst hy

def EL0 : List (String × Nat) := [("java/lang/String", 7)]
theorem own_EW {Z : State} {a0 : Array Value} (hw : ∀ d ∈ tables_1, d.before a0 Z = true) : EW Z a0 EL0 := EW.cons (text := "") (hw _ (List.mem_of_getElem? (i := 18) rfl)) (by simp) EW.nil
theorem own_wS {Z : State} {a0 : Array Value} (hw : ∀ d ∈ tables_1, d.before a0 Z = true) : ∀ a ∈ Bundle.stringAtoms, a.before a0 Z = true := by
  intro a ha
  simp only [Bundle.stringAtoms, Bundle.sN, List.mem_cons, List.not_mem_nil, or_false] at ha
  rcases ha with rfl | rfl | rfl | rfl | rfl | rfl | rfl
  · exact (hw _ (List.mem_of_getElem? (i := 6) rfl))
  · exact (hw _ (List.mem_of_getElem? (i := 5) rfl))
  · exact (hw _ (List.mem_of_getElem? (i := 19) rfl))
  · exact (hw _ (List.mem_of_getElem? (i := 20) rfl))
  · exact (hw _ (List.mem_of_getElem? (i := 21) rfl))
  · exact (hw _ (List.mem_of_getElem? (i := 22) rfl))
  · exact (hw _ (List.mem_of_getElem? (i := 23) rfl))
def nc (p : Int32) : Int32 := (p.toUInt32.toUInt16.toUInt32.toInt32)
def bt (p : Int32) : Int32 := ((((p.toUInt32.toUInt16.toUInt32.toInt32).toUInt32.toUInt16.toUInt32.toInt32).toInt8.toInt32).toInt8.toInt32)
theorem own_nc {p : Int32} (h : 0 ≤ p.toInt ∧ p.toInt ≤ 255) : (p.toUInt32.toUInt16.toUInt32.toInt32) = p := by
  have a := c_i2c p
  rw [← Int32.toInt_inj]; omega
theorem own_ch2 {p : Int32} (h : 0 ≤ p.toInt ∧ p.toInt ≤ 255) : ¬ (255 : Int32) < ((p.toUInt32.toUInt16.toUInt32.toInt32).toUInt32.toUInt16.toUInt32.toInt32) := by
  rw [own_nc h, own_nc h, Int32.lt_iff_toInt_lt, show (255 : Int32).toInt = 255 from by decide]; omega
theorem own_bt {p q : Int32} (h : 0 ≤ p.toInt ∧ p.toInt ≤ 255) (g : 0 ≤ q.toInt ∧ q.toInt ≤ 255) : bt p = bt q ↔ p = q := by
  constructor
  · intro e
    rw [bt, bt, own_nc h, own_nc h, own_nc g, own_nc g] at e
    have a1 := c_i2b p
    have a2 := c_i2b (p.toInt8.toInt32)
    have b1 := c_i2b q
    have b2 := c_i2b (q.toInt8.toInt32)
    rw [e] at a2
    rw [← Int32.toInt_inj]; omega
  · rintro rfl; rfl
def SX (p1 p2 p3 n : Int32) (xs : List Value) : Prop := (p1 = (0 : Int32) ∧ n = (0 : Int32) ∧ xs = []) ∨ (p1 = (1 : Int32) ∧ n = (1 : Int32) ∧ xs = [.int (bt p2)]) ∨ (p1 = (2 : Int32) ∧ n = (2 : Int32) ∧ xs = [.int (bt p2), .int (bt p3)])
def SL (n : Int32) (xs : List Value) : Prop := (n = (0 : Int32) ∧ xs = []) ∨ (∃ u : Int32, n = (1 : Int32) ∧ xs = [.int u]) ∨ (∃ u w : Int32, n = (2 : Int32) ∧ xs = [.int u, .int w])
theorem SX.sl {p1 p2 p3 n : Int32} {xs : List Value} (h : SX p1 p2 p3 n xs) : SL n xs := by
  rcases h with ⟨-, a, b⟩ | ⟨-, a, b⟩ | ⟨-, a, b⟩
  · exact Or.inl ⟨a, b⟩
  · exact Or.inr (Or.inl ⟨_, a, b⟩)
  · exact Or.inr (Or.inr ⟨_, _, a, b⟩)
def SE (r : Int32) (xs ys : List Value) : Prop := (r = (0 : Int32) ∨ r = (1 : Int32)) ∧ (r = (1 : Int32) ↔ xs = ys)
theorem SE.nz {r : Int32} {xs ys : List Value} (h : SE r xs ys) : r = (0 : Int32) ↔ ¬ xs = ys := by
  obtain ⟨a, b⟩ := h
  rw [← b]
  rcases a with rfl | rfl <;> simp
def Q_rmCp_1 (Z : State) (a1 : Addr) (a3 : Addr) (kc : ClassId) (kb : ClassId) (u0 : Int32) (h0 : Heap) (n0 : Nat) (v : Option Value) (h : Heap) (L : List Loc) : Prop := v = some (.int (1 : Int32)) ∧ Fr n0 L ∧ Keep h0 h [a3] ∧ Arv Z h a3 kb .byte (1 : Int32) [(.int ((u0.toInt8.toInt32).toInt8.toInt32))] (.int (0 : Int32))
theorem d13_0 : decode jdk_52_method_21_code 0 = .ok (.iconst 0, 1) := by decide +kernel
theorem d13_1 : decode jdk_52_method_21_code 1 = .ok (.istore 5, 2) := by decide +kernel
theorem d13_3 : decode jdk_52_method_21_code 3 = .ok (.iload 5, 2) := by decide +kernel
theorem d13_5 : decode jdk_52_method_21_code 5 = .ok (.iload 4, 2) := by decide +kernel
theorem d13_7 : decode jdk_52_method_21_code 7 = .ok (.if_icmp .ge 37, 3) := by decide +kernel
theorem d13_10 : decode jdk_52_method_21_code 10 = .ok (.aload_n 0, 1) := by decide +kernel
theorem d13_11 : decode jdk_52_method_21_code 11 = .ok (.iload_n 1, 1) := by decide +kernel
theorem d13_12 : decode jdk_52_method_21_code 12 = .ok (.caload, 1) := by decide +kernel
theorem d13_13 : decode jdk_52_method_21_code 13 = .ok (.istore 6, 2) := by decide +kernel
theorem d13_15 : decode jdk_52_method_21_code 15 = .ok (.iload 6, 2) := by decide +kernel
theorem d13_17 : decode jdk_52_method_21_code 17 = .ok (.sipush 255, 3) := by decide +kernel
theorem d13_20 : decode jdk_52_method_21_code 20 = .ok (.if_icmp .le 6, 3) := by decide +kernel
theorem d13_26 : decode jdk_52_method_21_code 26 = .ok (.aload_n 2, 1) := by decide +kernel
theorem d13_27 : decode jdk_52_method_21_code 27 = .ok (.iload_n 3, 1) := by decide +kernel
theorem d13_28 : decode jdk_52_method_21_code 28 = .ok (.iload 6, 2) := by decide +kernel
theorem d13_30 : decode jdk_52_method_21_code 30 = .ok (.i2b, 1) := by decide +kernel
theorem d13_31 : decode jdk_52_method_21_code 31 = .ok (.bastore, 1) := by decide +kernel
theorem d13_32 : decode jdk_52_method_21_code 32 = .ok (.iinc 1 1, 3) := by decide +kernel
theorem d13_35 : decode jdk_52_method_21_code 35 = .ok (.iinc 3 1, 3) := by decide +kernel
theorem d13_38 : decode jdk_52_method_21_code 38 = .ok (.iinc 5 1, 3) := by decide +kernel
theorem d13_41 : decode jdk_52_method_21_code 41 = .ok (.goto (-38), 3) := by decide +kernel
theorem d13_44 : decode jdk_52_method_21_code 44 = .ok (.iload 4, 2) := by decide +kernel
theorem d13_46 : decode jdk_52_method_21_code 46 = .ok (.ireturn, 1) := by decide +kernel
theorem pn_0 : plainName "java/lang/StringUTF16" = true := by first | (simp [plainName, overriddenIn]; done) | decide +kernel
theorem ef_rmCp_1 (m : MethodId) (x0 : Addr) (x1 : Int32) (x2 : Addr) (x3 : Int32) (x4 : Int32) : entryFrame m #[(.ref x0), (.int x1), (.ref x2), (.int x3), (.int x4)] 7 = mkF m 0 #[.val (.ref x0), .val (.int x1), .val (.ref x2), .val (.int x3), .val (.int x4), .unset, .unset] [] := by first | (simp [entryFrame, mkF, argsToLocals, Value.category]; done) | rfl
set_option maxRecDepth 65536 in
set_option maxHeartbeats 40000000 in
theorem rmCp_1 (l : Launch) (Z : State) (a0 : Array Value) (hw : ∀ d ∈ tables_1, d.before a0 Z = true) (ws : List Jvm.Cond) (a1 : Addr) (a3 : Addr) (kc : ClassId) (kb : ClassId) (u0 : Int32) (h0 : Heap) (n0 : Nat) (ge_a3 : n0 ≤ a3) (Pf0 : Arv Z h0 a1 kc .char (1 : Int32) [(.int u0)] (.int (0 : Int32))) (Pf1 : Arv Z h0 a3 kb .byte (1 : Int32) [(.int (0 : Int32))] (.int (0 : Int32))) (ne_a1_a3 : a1 ≠ a3) (hu0 : ¬ (255 : Int32) < u0) :
    MetFree l (⟨"java/lang/StringUTF16", "compress", "([CI[BII)I"⟩ : MethodName) (head1 (Jvm.Cond.code (⟨"java/lang/StringUTF16", "compress", "([CI[BII)I"⟩ : MethodName) jdk_52_method_21_code 7 (some .int) :: ws) ({ frames := 0, cells := 0, slots := 0, locals := 0 } : Room)) (fun a U => a = #[(.ref a1), (.int (0 : Int32)), (.ref a3), (.int (0 : Int32)), (.int (1 : Int32))] ∧ Z.Warmed39 U.vm ∧ U.heap = h0) (fun _ _ _ _ _ => True) (fun _ U o U' => ∃ v L, o = .returned v ∧ (Q_rmCp_1 Z a1 a3 kc kb u0 h0 n0) v U'.heap L ∧ FrameEnd U o U' L ({ frames := 0, cells := 0, slots := 0, locals := 0 } : Room).cells ({ frames := 0, cells := 0, slots := 0, locals := 0 } : Room).slots) := by
  refine MetFree.of_bodySF (plainFor_of_name pn_0) hisR ?_
  intro p e s m args below meth c s₁ Bd hml0 hP hK
  obtain ⟨rfl, hZ, hh⟩ := hP
  have hx := Bd.exec
  have hby := Bd.bytes
  have hml : c.maxLocals = 7 := hml0
  have hown : s.vm.findClass "java/lang/StringUTF16" = some m.cls := findClass_of_methodNamed Bd.named
  have hnm := (name_of_methodNamed Bd.named Bd.method).1
  have X0 : Stand p l e ({ frames := 0, cells := 0, slots := 0, locals := 0 } : Room) s m #[(.ref a1), (.int (0 : Int32)), (.ref a3), (.int (0 : Int32)), (.int (1 : Int32))] below meth c s₁ [] 0 0 := Stand.of_body Bd
  have e0 : s₁.heap = h0 := by rw [← hh, Bd.state]; rfl
  have N0 := Fr.nil n0
  show WP p e below (GG (Q_rmCp_1 Z a1 a3 kc kb u0 h0 n0) s ({ frames := 0, cells := 0, slots := 0, locals := 0 } : Room).cells ({ frames := 0, cells := 0, slots := 0, locals := 0 } : Room).slots) (s₁.setTop (entryFrame m #[(.ref a1), (.int (0 : Int32)), (.ref a3), (.int (0 : Int32)), (.int (1 : Int32))] 7))
  rw [ef_rmCp_1 m a1 (0 : Int32) a3 (0 : Int32) (1 : Int32)]
  show WP p e below _ (s₁.setTop (mkF m 0 #[.val (.ref a1), .val (.int (0 : Int32)), .val (.ref a3), .val (.int (0 : Int32)), .val (.int (1 : Int32)), .unset, .unset] []))
  refine own_go (fun t_ k => XS.iconst X0.here hx rfl (hb hby d13_0) k) ?_
  show WP p e below _ (s₁.setTop (mkF m 1 #[.val (.ref a1), .val (.int (0 : Int32)), .val (.ref a3), .val (.int (0 : Int32)), .val (.int (1 : Int32)), .unset, .unset] [(.int (0 : Int32))]))
  refine own_go (fun t_ k => XS.istore X0.here hx rfl (hb hby d13_1) rfl (l' := #[.val (.ref a1), .val (.int (0 : Int32)), .val (.ref a3), .val (.int (0 : Int32)), .val (.int (1 : Int32)), .val (.int (0 : Int32)), .unset]) rfl k) ?_
  show WP p e below _ (s₁.setTop (mkF m 3 #[.val (.ref a1), .val (.int (0 : Int32)), .val (.ref a3), .val (.int (0 : Int32)), .val (.int (1 : Int32)), .val (.int (0 : Int32)), .unset] []))
  refine own_go (fun t_ k => XS.iload X0.here hx rfl (hb hby d13_3) rfl k) ?_
  show WP p e below _ (s₁.setTop (mkF m 5 #[.val (.ref a1), .val (.int (0 : Int32)), .val (.ref a3), .val (.int (0 : Int32)), .val (.int (1 : Int32)), .val (.int (0 : Int32)), .unset] [(.int (0 : Int32))]))
  refine own_go (fun t_ k => XS.iload X0.here hx rfl (hb hby d13_5) rfl k) ?_
  show WP p e below _ (s₁.setTop (mkF m 7 #[.val (.ref a1), .val (.int (0 : Int32)), .val (.ref a3), .val (.int (0 : Int32)), .val (.int (1 : Int32)), .val (.int (0 : Int32)), .unset] [(.int (1 : Int32)), (.int (0 : Int32))]))
  have hc7_1 : ((0 : Int32) < (1 : Int32)) := by decide
  refine own_go (fun t_ k => XS.icmpNo X0.here hx rfl (hb hby d13_7) rfl (tlt hc7_1).2.1 k) ?_
  show WP p e below _ (s₁.setTop (mkF m 10 #[.val (.ref a1), .val (.int (0 : Int32)), .val (.ref a3), .val (.int (0 : Int32)), .val (.int (1 : Int32)), .val (.int (0 : Int32)), .unset] []))
  refine own_go (fun t_ k => XS.aloadN X0.here hx rfl (hb hby d13_10) rfl rfl k) ?_
  show WP p e below _ (s₁.setTop (mkF m 11 #[.val (.ref a1), .val (.int (0 : Int32)), .val (.ref a3), .val (.int (0 : Int32)), .val (.int (1 : Int32)), .val (.int (0 : Int32)), .unset] [(.ref a1)]))
  refine own_go (fun t_ k => XS.iloadN X0.here hx rfl (hb hby d13_11) rfl k) ?_
  show WP p e below _ (s₁.setTop (mkF m 12 #[.val (.ref a1), .val (.int (0 : Int32)), .val (.ref a3), .val (.int (0 : Int32)), .val (.int (1 : Int32)), .val (.int (0 : Int32)), .unset] [(.int (0 : Int32)), (.ref a1)]))
  obtain ⟨cl2, Ar2, -, S2, M2, H2, -⟩ := id (Pf0)
  have hin2 : ¬ ((0 : Int32) < 0 ∨ cl2.slots.size ≤ ((0 : Int32)).toNatClampNeg) := inb_of S2 (⟨by decide, by decide⟩)
  refine own_go (fun t_ k => X0.caload hx (j := (0 : Int32)) (v := (.int u0)) (by rw [e0]; exact Ar2.1) (State.isArrayOf_alike hZ.alike Ar2.2.1) Ar2.2.2 hin2 (H2.at hin2 rfl) (g := (mkF m 12 #[.val (.ref a1), .val (.int (0 : Int32)), .val (.ref a3), .val (.int (0 : Int32)), .val (.int (1 : Int32)), .val (.int (0 : Int32)), .unset] [(.int (0 : Int32)), (.ref a1)])) rfl rfl (hb hby d13_12) _ k) ?_
  show WP p e below _ (s₁.setTop (mkF m 13 #[.val (.ref a1), .val (.int (0 : Int32)), .val (.ref a3), .val (.int (0 : Int32)), .val (.int (1 : Int32)), .val (.int (0 : Int32)), .unset] [(.int u0)]))
  refine own_go (fun t_ k => XS.istore X0.here hx rfl (hb hby d13_13) rfl (l' := #[.val (.ref a1), .val (.int (0 : Int32)), .val (.ref a3), .val (.int (0 : Int32)), .val (.int (1 : Int32)), .val (.int (0 : Int32)), .val (.int u0)]) rfl k) ?_
  show WP p e below _ (s₁.setTop (mkF m 15 #[.val (.ref a1), .val (.int (0 : Int32)), .val (.ref a3), .val (.int (0 : Int32)), .val (.int (1 : Int32)), .val (.int (0 : Int32)), .val (.int u0)] []))
  refine own_go (fun t_ k => XS.iload X0.here hx rfl (hb hby d13_15) rfl k) ?_
  show WP p e below _ (s₁.setTop (mkF m 17 #[.val (.ref a1), .val (.int (0 : Int32)), .val (.ref a3), .val (.int (0 : Int32)), .val (.int (1 : Int32)), .val (.int (0 : Int32)), .val (.int u0)] [(.int u0)]))
  refine own_go (fun t_ k => XS.sipush X0.here hx rfl (hb hby d13_17) k) ?_
  show WP p e below _ (s₁.setTop (mkF m 20 #[.val (.ref a1), .val (.int (0 : Int32)), .val (.ref a3), .val (.int (0 : Int32)), .val (.int (1 : Int32)), .val (.int (0 : Int32)), .val (.int u0)] [(.int (255 : Int32)), (.int u0)]))
  have hc20_3 : ¬ ((255 : Int32) < u0) := hu0
  refine own_go (fun t_ k => XS.icmpYes X0.here hx rfl (pc0 := 20) (pc' := 26) rfl (hb hby d13_20) rfl (flt hc20_3).2.2.2 (by decide) (by decide) k) ?_
  show WP p e below _ (s₁.setTop (mkF m 26 #[.val (.ref a1), .val (.int (0 : Int32)), .val (.ref a3), .val (.int (0 : Int32)), .val (.int (1 : Int32)), .val (.int (0 : Int32)), .val (.int u0)] []))
  refine own_go (fun t_ k => XS.aloadN X0.here hx rfl (hb hby d13_26) rfl rfl k) ?_
  show WP p e below _ (s₁.setTop (mkF m 27 #[.val (.ref a1), .val (.int (0 : Int32)), .val (.ref a3), .val (.int (0 : Int32)), .val (.int (1 : Int32)), .val (.int (0 : Int32)), .val (.int u0)] [(.ref a3)]))
  refine own_go (fun t_ k => XS.iloadN X0.here hx rfl (hb hby d13_27) rfl k) ?_
  show WP p e below _ (s₁.setTop (mkF m 28 #[.val (.ref a1), .val (.int (0 : Int32)), .val (.ref a3), .val (.int (0 : Int32)), .val (.int (1 : Int32)), .val (.int (0 : Int32)), .val (.int u0)] [(.int (0 : Int32)), (.ref a3)]))
  refine own_go (fun t_ k => XS.iload X0.here hx rfl (hb hby d13_28) rfl k) ?_
  show WP p e below _ (s₁.setTop (mkF m 30 #[.val (.ref a1), .val (.int (0 : Int32)), .val (.ref a3), .val (.int (0 : Int32)), .val (.int (1 : Int32)), .val (.int (0 : Int32)), .val (.int u0)] [(.int u0), (.int (0 : Int32)), (.ref a3)]))
  refine own_go (fun t_ k => XS.i2b X0.here hx rfl (hb hby d13_30) rfl k) ?_
  show WP p e below _ (s₁.setTop (mkF m 31 #[.val (.ref a1), .val (.int (0 : Int32)), .val (.ref a3), .val (.int (0 : Int32)), .val (.int (1 : Int32)), .val (.int (0 : Int32)), .val (.int u0)] [(.int (u0.toInt8.toInt32)), (.int (0 : Int32)), (.ref a3)]))
  obtain ⟨cl4, Ar4, q4, S4, M4, H4, G4⟩ := id (Pf1)
  have hin4 : ¬ ((0 : Int32) < 0 ∨ cl4.slots.size ≤ ((0 : Int32)).toNatClampNeg) := inb_of S4 (⟨by decide, by decide⟩)
  obtain ⟨T5, h5, X5, e5, W5, st5⟩ := stB X0 hx hZ e0 Ar4 (j := (0 : Int32)) hin4 (g := (mkF m 31 #[.val (.ref a1), .val (.int (0 : Int32)), .val (.ref a3), .val (.int (0 : Int32)), .val (.int (1 : Int32)), .val (.int (0 : Int32)), .val (.int u0)] [(.int (u0.toInt8.toInt32)), (.int (0 : Int32)), (.ref a3)])) rfl rfl (hb hby d13_31)
  refine own_go st5 ?_
  have V5 : Arv Z h5 a3 kb .byte (1 : Int32) [(.int ((u0.toInt8.toInt32).toInt8.toInt32))] (.int (0 : Int32)) := Arv.set Ar4 q4 S4 M4 H4 G4 (fits_nar_byte _) W5 0 rfl (Nat.le_of_ble_eq_true rfl)
  have N5 := Fr.snoc X5 N0 ge_a3
  have K5 : Keep h0 h5 [a3] := (Keep.refl h0 [a3]).wr W5 (Or.inl (List.mem_of_getElem? (i := 0) rfl))
  show WP p e below _ (T5.setTop (mkF m 32 #[.val (.ref a1), .val (.int (0 : Int32)), .val (.ref a3), .val (.int (0 : Int32)), .val (.int (1 : Int32)), .val (.int (0 : Int32)), .val (.int u0)] []))
  refine own_go (fun t_ k => XS.iinc X5.here hx rfl (hb hby d13_32) rfl (l' := #[.val (.ref a1), .val (.int (1 : Int32)), .val (.ref a3), .val (.int (0 : Int32)), .val (.int (1 : Int32)), .val (.int (0 : Int32)), .val (.int u0)]) rfl k) ?_
  show WP p e below _ (T5.setTop (mkF m 35 #[.val (.ref a1), .val (.int (1 : Int32)), .val (.ref a3), .val (.int (0 : Int32)), .val (.int (1 : Int32)), .val (.int (0 : Int32)), .val (.int u0)] []))
  refine own_go (fun t_ k => XS.iinc X5.here hx rfl (hb hby d13_35) rfl (l' := #[.val (.ref a1), .val (.int (1 : Int32)), .val (.ref a3), .val (.int (1 : Int32)), .val (.int (1 : Int32)), .val (.int (0 : Int32)), .val (.int u0)]) rfl k) ?_
  show WP p e below _ (T5.setTop (mkF m 38 #[.val (.ref a1), .val (.int (1 : Int32)), .val (.ref a3), .val (.int (1 : Int32)), .val (.int (1 : Int32)), .val (.int (0 : Int32)), .val (.int u0)] []))
  refine own_go (fun t_ k => XS.iinc X5.here hx rfl (hb hby d13_38) rfl (l' := #[.val (.ref a1), .val (.int (1 : Int32)), .val (.ref a3), .val (.int (1 : Int32)), .val (.int (1 : Int32)), .val (.int (1 : Int32)), .val (.int u0)]) rfl k) ?_
  show WP p e below _ (T5.setTop (mkF m 41 #[.val (.ref a1), .val (.int (1 : Int32)), .val (.ref a3), .val (.int (1 : Int32)), .val (.int (1 : Int32)), .val (.int (1 : Int32)), .val (.int u0)] []))
  refine own_go (fun t_ k => XS.goto X5.here hx rfl (pc0 := 41) (pc' := 3) rfl (hb hby d13_41) (by decide) (by decide) k) ?_
  show WP p e below _ (T5.setTop (mkF m 3 #[.val (.ref a1), .val (.int (1 : Int32)), .val (.ref a3), .val (.int (1 : Int32)), .val (.int (1 : Int32)), .val (.int (1 : Int32)), .val (.int u0)] []))
  refine own_go (fun t_ k => XS.iload X5.here hx rfl (hb hby d13_3) rfl k) ?_
  show WP p e below _ (T5.setTop (mkF m 5 #[.val (.ref a1), .val (.int (1 : Int32)), .val (.ref a3), .val (.int (1 : Int32)), .val (.int (1 : Int32)), .val (.int (1 : Int32)), .val (.int u0)] [(.int (1 : Int32))]))
  refine own_go (fun t_ k => XS.iload X5.here hx rfl (hb hby d13_5) rfl k) ?_
  show WP p e below _ (T5.setTop (mkF m 7 #[.val (.ref a1), .val (.int (1 : Int32)), .val (.ref a3), .val (.int (1 : Int32)), .val (.int (1 : Int32)), .val (.int (1 : Int32)), .val (.int u0)] [(.int (1 : Int32)), (.int (1 : Int32))]))
  have hc7_6 : ¬ ((1 : Int32) < (1 : Int32)) := by decide
  refine own_go (fun t_ k => XS.icmpYes X5.here hx rfl (pc0 := 7) (pc' := 44) rfl (hb hby d13_7) rfl (flt hc7_6).2.1 (by decide) (by decide) k) ?_
  show WP p e below _ (T5.setTop (mkF m 44 #[.val (.ref a1), .val (.int (1 : Int32)), .val (.ref a3), .val (.int (1 : Int32)), .val (.int (1 : Int32)), .val (.int (1 : Int32)), .val (.int u0)] []))
  refine own_go (fun t_ k => XS.iload X5.here hx rfl (hb hby d13_44) rfl k) ?_
  show WP p e below _ (T5.setTop (mkF m 46 #[.val (.ref a1), .val (.int (1 : Int32)), .val (.ref a3), .val (.int (1 : Int32)), .val (.int (1 : Int32)), .val (.int (1 : Int32)), .val (.int u0)] [(.int (1 : Int32))]))
  exact own_retI X5 hx Bd.notSynchronized Bd.returns (hb hby d13_46) (by rw [e5]; exact ⟨rfl, N5, K5, V5⟩) (by decide) (by decide)
def Q_rmCf_1 (Z : State) (a1 : Addr) (kb : ClassId) (zs : List Value) (h0 : Heap) (n0 : Nat) (v : Option Value) (h : Heap) (L : List Loc) : Prop := v = some (.int (0 : Int32)) ∧ Fr n0 L ∧ h = h0
theorem d14_0 : decode jdk_52_method_15_code 0 = .ok (.iload_n 1, 1) := by decide +kernel
theorem d14_1 : decode jdk_52_method_15_code 1 = .ok (.aload_n 0, 1) := by decide +kernel
theorem d14_2 : decode jdk_52_method_15_code 2 = .ok (.arraylength, 1) := by decide +kernel
theorem d14_3 : decode jdk_52_method_15_code 3 = .ok (.isub, 1) := by decide +kernel
theorem d14_4 : decode jdk_52_method_15_code 4 = .ok (.bipush 31, 2) := by decide +kernel
theorem d14_6 : decode jdk_52_method_15_code 6 = .ok (.iushr, 1) := by decide +kernel
theorem d14_7 : decode jdk_52_method_15_code 7 = .ok (.i2b, 1) := by decide +kernel
theorem d14_8 : decode jdk_52_method_15_code 8 = .ok (.ireturn, 1) := by decide +kernel
theorem ef_rmCf_1 (m : MethodId) (x0 : Addr) (x1 : Int32) : entryFrame m #[(.ref x0), (.int x1)] 2 = mkF m 0 #[.val (.ref x0), .val (.int x1)] [] := by first | (simp [entryFrame, mkF, argsToLocals, Value.category]; done) | rfl
set_option maxRecDepth 65536 in
set_option maxHeartbeats 40000000 in
theorem rmCf_1 (l : Launch) (Z : State) (a0 : Array Value) (hw : ∀ d ∈ tables_1, d.before a0 Z = true) (ws : List Jvm.Cond) (a1 : Addr) (kb : ClassId) (zs : List Value) (h0 : Heap) (n0 : Nat) (Pf0 : Arv Z h0 a1 kb .byte (1 : Int32) zs (.int (0 : Int32))) :
    MetFree l (⟨"java/lang/StringUTF16", "coderFromArrayLen", "([BI)B"⟩ : MethodName) (head1 (Jvm.Cond.code (⟨"java/lang/StringUTF16", "coderFromArrayLen", "([BI)B"⟩ : MethodName) jdk_52_method_15_code 2 (some .byte) :: ws) ({ frames := 0, cells := 0, slots := 0, locals := 0 } : Room)) (fun a U => a = #[(.ref a1), (.int (1 : Int32))] ∧ Z.Warmed39 U.vm ∧ U.heap = h0) (fun _ _ _ _ _ => True) (fun _ U o U' => ∃ v L, o = .returned v ∧ (Q_rmCf_1 Z a1 kb zs h0 n0) v U'.heap L ∧ FrameEnd U o U' L ({ frames := 0, cells := 0, slots := 0, locals := 0 } : Room).cells ({ frames := 0, cells := 0, slots := 0, locals := 0 } : Room).slots) := by
  refine MetFree.of_bodySF (plainFor_of_name pn_0) hisR ?_
  intro p e s m args below meth c s₁ Bd hml0 hP hK
  obtain ⟨rfl, hZ, hh⟩ := hP
  have hx := Bd.exec
  have hby := Bd.bytes
  have hml : c.maxLocals = 2 := hml0
  have hown : s.vm.findClass "java/lang/StringUTF16" = some m.cls := findClass_of_methodNamed Bd.named
  have hnm := (name_of_methodNamed Bd.named Bd.method).1
  have X0 : Stand p l e ({ frames := 0, cells := 0, slots := 0, locals := 0 } : Room) s m #[(.ref a1), (.int (1 : Int32))] below meth c s₁ [] 0 0 := Stand.of_body Bd
  have e0 : s₁.heap = h0 := by rw [← hh, Bd.state]; rfl
  have N0 := Fr.nil n0
  show WP p e below (GG (Q_rmCf_1 Z a1 kb zs h0 n0) s ({ frames := 0, cells := 0, slots := 0, locals := 0 } : Room).cells ({ frames := 0, cells := 0, slots := 0, locals := 0 } : Room).slots) (s₁.setTop (entryFrame m #[(.ref a1), (.int (1 : Int32))] 2))
  rw [ef_rmCf_1 m a1 (1 : Int32)]
  show WP p e below _ (s₁.setTop (mkF m 0 #[.val (.ref a1), .val (.int (1 : Int32))] []))
  refine own_go (fun t_ k => XS.iloadN X0.here hx rfl (hb hby d14_0) rfl k) ?_
  show WP p e below _ (s₁.setTop (mkF m 1 #[.val (.ref a1), .val (.int (1 : Int32))] [(.int (1 : Int32))]))
  refine own_go (fun t_ k => XS.aloadN X0.here hx rfl (hb hby d14_1) rfl rfl k) ?_
  show WP p e below _ (s₁.setTop (mkF m 2 #[.val (.ref a1), .val (.int (1 : Int32))] [(.ref a1), (.int (1 : Int32))]))
  obtain ⟨cl1, Ar1, -, S1, M1, -, -⟩ := id (Pf0)
  refine own_go (fun t_ k => X0.arraylength hx (by rw [e0]; exact Ar1.1) (State.isArrayOf_alike hZ.alike Ar1.2.1) (g := (mkF m 2 #[.val (.ref a1), .val (.int (1 : Int32))] [(.ref a1), (.int (1 : Int32))])) rfl rfl (hb hby d14_2) _ (by rw [len_of S1 M1]; exact k)) ?_
  show WP p e below _ (s₁.setTop (mkF m 3 #[.val (.ref a1), .val (.int (1 : Int32))] [(.int (1 : Int32)), (.int (1 : Int32))]))
  refine own_go (fun t_ k => XS.isub X0.here hx rfl (hb hby d14_3) rfl k) ?_
  show WP p e below _ (s₁.setTop (mkF m 4 #[.val (.ref a1), .val (.int (1 : Int32))] [(.int (0 : Int32))]))
  refine own_go (fun t_ k => XS.bipush X0.here hx rfl (hb hby d14_4) k) ?_
  show WP p e below _ (s₁.setTop (mkF m 6 #[.val (.ref a1), .val (.int (1 : Int32))] [(.int (31 : Int32)), (.int (0 : Int32))]))
  refine own_go (fun t_ k => XS.iushr X0.here hx rfl (hb hby d14_6) rfl k) ?_
  show WP p e below _ (s₁.setTop (mkF m 7 #[.val (.ref a1), .val (.int (1 : Int32))] [(.int (0 : Int32))]))
  refine own_go (fun t_ k => XS.i2b X0.here hx rfl (hb hby d14_7) rfl k) ?_
  show WP p e below _ (s₁.setTop (mkF m 8 #[.val (.ref a1), .val (.int (1 : Int32))] [(.int (0 : Int32))]))
  exact own_retB X0 hx Bd.notSynchronized Bd.returns (hb hby d14_8) (⟨rfl, N0, e0⟩) (by decide) (by decide)
def Q_rmCp_2 (Z : State) (a1 : Addr) (a3 : Addr) (kc : ClassId) (kb : ClassId) (u0 : Int32) (u1 : Int32) (h0 : Heap) (n0 : Nat) (v : Option Value) (h : Heap) (L : List Loc) : Prop := v = some (.int (2 : Int32)) ∧ Fr n0 L ∧ Keep h0 h [a3] ∧ Arv Z h a3 kb .byte (2 : Int32) [(.int ((u0.toInt8.toInt32).toInt8.toInt32)), (.int ((u1.toInt8.toInt32).toInt8.toInt32))] (.int (0 : Int32))
theorem ef_rmCp_2 (m : MethodId) (x0 : Addr) (x1 : Int32) (x2 : Addr) (x3 : Int32) (x4 : Int32) : entryFrame m #[(.ref x0), (.int x1), (.ref x2), (.int x3), (.int x4)] 7 = mkF m 0 #[.val (.ref x0), .val (.int x1), .val (.ref x2), .val (.int x3), .val (.int x4), .unset, .unset] [] := by first | (simp [entryFrame, mkF, argsToLocals, Value.category]; done) | rfl
set_option maxRecDepth 65536 in
set_option maxHeartbeats 40000000 in
theorem rmCp_2 (l : Launch) (Z : State) (a0 : Array Value) (hw : ∀ d ∈ tables_1, d.before a0 Z = true) (ws : List Jvm.Cond) (a1 : Addr) (a3 : Addr) (kc : ClassId) (kb : ClassId) (u0 : Int32) (u1 : Int32) (h0 : Heap) (n0 : Nat) (ge_a3 : n0 ≤ a3) (Pf0 : Arv Z h0 a1 kc .char (2 : Int32) [(.int u0), (.int u1)] (.int (0 : Int32))) (Pf1 : Arv Z h0 a3 kb .byte (2 : Int32) [(.int (0 : Int32)), (.int (0 : Int32))] (.int (0 : Int32))) (ne_a1_a3 : a1 ≠ a3) (hu0 : ¬ (255 : Int32) < u0) (hu1 : ¬ (255 : Int32) < u1) :
    MetFree l (⟨"java/lang/StringUTF16", "compress", "([CI[BII)I"⟩ : MethodName) (head1 (Jvm.Cond.code (⟨"java/lang/StringUTF16", "compress", "([CI[BII)I"⟩ : MethodName) jdk_52_method_21_code 7 (some .int) :: ws) ({ frames := 0, cells := 0, slots := 0, locals := 0 } : Room)) (fun a U => a = #[(.ref a1), (.int (0 : Int32)), (.ref a3), (.int (0 : Int32)), (.int (2 : Int32))] ∧ Z.Warmed39 U.vm ∧ U.heap = h0) (fun _ _ _ _ _ => True) (fun _ U o U' => ∃ v L, o = .returned v ∧ (Q_rmCp_2 Z a1 a3 kc kb u0 u1 h0 n0) v U'.heap L ∧ FrameEnd U o U' L ({ frames := 0, cells := 0, slots := 0, locals := 0 } : Room).cells ({ frames := 0, cells := 0, slots := 0, locals := 0 } : Room).slots) := by
  refine MetFree.of_bodySF (plainFor_of_name pn_0) hisR ?_
  intro p e s m args below meth c s₁ Bd hml0 hP hK
  obtain ⟨rfl, hZ, hh⟩ := hP
  have hx := Bd.exec
  have hby := Bd.bytes
  have hml : c.maxLocals = 7 := hml0
  have hown : s.vm.findClass "java/lang/StringUTF16" = some m.cls := findClass_of_methodNamed Bd.named
  have hnm := (name_of_methodNamed Bd.named Bd.method).1
  have X0 : Stand p l e ({ frames := 0, cells := 0, slots := 0, locals := 0 } : Room) s m #[(.ref a1), (.int (0 : Int32)), (.ref a3), (.int (0 : Int32)), (.int (2 : Int32))] below meth c s₁ [] 0 0 := Stand.of_body Bd
  have e0 : s₁.heap = h0 := by rw [← hh, Bd.state]; rfl
  have N0 := Fr.nil n0
  show WP p e below (GG (Q_rmCp_2 Z a1 a3 kc kb u0 u1 h0 n0) s ({ frames := 0, cells := 0, slots := 0, locals := 0 } : Room).cells ({ frames := 0, cells := 0, slots := 0, locals := 0 } : Room).slots) (s₁.setTop (entryFrame m #[(.ref a1), (.int (0 : Int32)), (.ref a3), (.int (0 : Int32)), (.int (2 : Int32))] 7))
  rw [ef_rmCp_2 m a1 (0 : Int32) a3 (0 : Int32) (2 : Int32)]
  show WP p e below _ (s₁.setTop (mkF m 0 #[.val (.ref a1), .val (.int (0 : Int32)), .val (.ref a3), .val (.int (0 : Int32)), .val (.int (2 : Int32)), .unset, .unset] []))
  refine own_go (fun t_ k => XS.iconst X0.here hx rfl (hb hby d13_0) k) ?_
  show WP p e below _ (s₁.setTop (mkF m 1 #[.val (.ref a1), .val (.int (0 : Int32)), .val (.ref a3), .val (.int (0 : Int32)), .val (.int (2 : Int32)), .unset, .unset] [(.int (0 : Int32))]))
  refine own_go (fun t_ k => XS.istore X0.here hx rfl (hb hby d13_1) rfl (l' := #[.val (.ref a1), .val (.int (0 : Int32)), .val (.ref a3), .val (.int (0 : Int32)), .val (.int (2 : Int32)), .val (.int (0 : Int32)), .unset]) rfl k) ?_
  show WP p e below _ (s₁.setTop (mkF m 3 #[.val (.ref a1), .val (.int (0 : Int32)), .val (.ref a3), .val (.int (0 : Int32)), .val (.int (2 : Int32)), .val (.int (0 : Int32)), .unset] []))
  refine own_go (fun t_ k => XS.iload X0.here hx rfl (hb hby d13_3) rfl k) ?_
  show WP p e below _ (s₁.setTop (mkF m 5 #[.val (.ref a1), .val (.int (0 : Int32)), .val (.ref a3), .val (.int (0 : Int32)), .val (.int (2 : Int32)), .val (.int (0 : Int32)), .unset] [(.int (0 : Int32))]))
  refine own_go (fun t_ k => XS.iload X0.here hx rfl (hb hby d13_5) rfl k) ?_
  show WP p e below _ (s₁.setTop (mkF m 7 #[.val (.ref a1), .val (.int (0 : Int32)), .val (.ref a3), .val (.int (0 : Int32)), .val (.int (2 : Int32)), .val (.int (0 : Int32)), .unset] [(.int (2 : Int32)), (.int (0 : Int32))]))
  have hc7_1 : ((0 : Int32) < (2 : Int32)) := by decide
  refine own_go (fun t_ k => XS.icmpNo X0.here hx rfl (hb hby d13_7) rfl (tlt hc7_1).2.1 k) ?_
  show WP p e below _ (s₁.setTop (mkF m 10 #[.val (.ref a1), .val (.int (0 : Int32)), .val (.ref a3), .val (.int (0 : Int32)), .val (.int (2 : Int32)), .val (.int (0 : Int32)), .unset] []))
  refine own_go (fun t_ k => XS.aloadN X0.here hx rfl (hb hby d13_10) rfl rfl k) ?_
  show WP p e below _ (s₁.setTop (mkF m 11 #[.val (.ref a1), .val (.int (0 : Int32)), .val (.ref a3), .val (.int (0 : Int32)), .val (.int (2 : Int32)), .val (.int (0 : Int32)), .unset] [(.ref a1)]))
  refine own_go (fun t_ k => XS.iloadN X0.here hx rfl (hb hby d13_11) rfl k) ?_
  show WP p e below _ (s₁.setTop (mkF m 12 #[.val (.ref a1), .val (.int (0 : Int32)), .val (.ref a3), .val (.int (0 : Int32)), .val (.int (2 : Int32)), .val (.int (0 : Int32)), .unset] [(.int (0 : Int32)), (.ref a1)]))
  obtain ⟨cl2, Ar2, -, S2, M2, H2, -⟩ := id (Pf0)
  have hin2 : ¬ ((0 : Int32) < 0 ∨ cl2.slots.size ≤ ((0 : Int32)).toNatClampNeg) := inb_of S2 (⟨by decide, by decide⟩)
  refine own_go (fun t_ k => X0.caload hx (j := (0 : Int32)) (v := (.int u0)) (by rw [e0]; exact Ar2.1) (State.isArrayOf_alike hZ.alike Ar2.2.1) Ar2.2.2 hin2 (H2.at hin2 rfl) (g := (mkF m 12 #[.val (.ref a1), .val (.int (0 : Int32)), .val (.ref a3), .val (.int (0 : Int32)), .val (.int (2 : Int32)), .val (.int (0 : Int32)), .unset] [(.int (0 : Int32)), (.ref a1)])) rfl rfl (hb hby d13_12) _ k) ?_
  show WP p e below _ (s₁.setTop (mkF m 13 #[.val (.ref a1), .val (.int (0 : Int32)), .val (.ref a3), .val (.int (0 : Int32)), .val (.int (2 : Int32)), .val (.int (0 : Int32)), .unset] [(.int u0)]))
  refine own_go (fun t_ k => XS.istore X0.here hx rfl (hb hby d13_13) rfl (l' := #[.val (.ref a1), .val (.int (0 : Int32)), .val (.ref a3), .val (.int (0 : Int32)), .val (.int (2 : Int32)), .val (.int (0 : Int32)), .val (.int u0)]) rfl k) ?_
  show WP p e below _ (s₁.setTop (mkF m 15 #[.val (.ref a1), .val (.int (0 : Int32)), .val (.ref a3), .val (.int (0 : Int32)), .val (.int (2 : Int32)), .val (.int (0 : Int32)), .val (.int u0)] []))
  refine own_go (fun t_ k => XS.iload X0.here hx rfl (hb hby d13_15) rfl k) ?_
  show WP p e below _ (s₁.setTop (mkF m 17 #[.val (.ref a1), .val (.int (0 : Int32)), .val (.ref a3), .val (.int (0 : Int32)), .val (.int (2 : Int32)), .val (.int (0 : Int32)), .val (.int u0)] [(.int u0)]))
  refine own_go (fun t_ k => XS.sipush X0.here hx rfl (hb hby d13_17) k) ?_
  show WP p e below _ (s₁.setTop (mkF m 20 #[.val (.ref a1), .val (.int (0 : Int32)), .val (.ref a3), .val (.int (0 : Int32)), .val (.int (2 : Int32)), .val (.int (0 : Int32)), .val (.int u0)] [(.int (255 : Int32)), (.int u0)]))
  have hc20_3 : ¬ ((255 : Int32) < u0) := hu0
  refine own_go (fun t_ k => XS.icmpYes X0.here hx rfl (pc0 := 20) (pc' := 26) rfl (hb hby d13_20) rfl (flt hc20_3).2.2.2 (by decide) (by decide) k) ?_
  show WP p e below _ (s₁.setTop (mkF m 26 #[.val (.ref a1), .val (.int (0 : Int32)), .val (.ref a3), .val (.int (0 : Int32)), .val (.int (2 : Int32)), .val (.int (0 : Int32)), .val (.int u0)] []))
  refine own_go (fun t_ k => XS.aloadN X0.here hx rfl (hb hby d13_26) rfl rfl k) ?_
  show WP p e below _ (s₁.setTop (mkF m 27 #[.val (.ref a1), .val (.int (0 : Int32)), .val (.ref a3), .val (.int (0 : Int32)), .val (.int (2 : Int32)), .val (.int (0 : Int32)), .val (.int u0)] [(.ref a3)]))
  refine own_go (fun t_ k => XS.iloadN X0.here hx rfl (hb hby d13_27) rfl k) ?_
  show WP p e below _ (s₁.setTop (mkF m 28 #[.val (.ref a1), .val (.int (0 : Int32)), .val (.ref a3), .val (.int (0 : Int32)), .val (.int (2 : Int32)), .val (.int (0 : Int32)), .val (.int u0)] [(.int (0 : Int32)), (.ref a3)]))
  refine own_go (fun t_ k => XS.iload X0.here hx rfl (hb hby d13_28) rfl k) ?_
  show WP p e below _ (s₁.setTop (mkF m 30 #[.val (.ref a1), .val (.int (0 : Int32)), .val (.ref a3), .val (.int (0 : Int32)), .val (.int (2 : Int32)), .val (.int (0 : Int32)), .val (.int u0)] [(.int u0), (.int (0 : Int32)), (.ref a3)]))
  refine own_go (fun t_ k => XS.i2b X0.here hx rfl (hb hby d13_30) rfl k) ?_
  show WP p e below _ (s₁.setTop (mkF m 31 #[.val (.ref a1), .val (.int (0 : Int32)), .val (.ref a3), .val (.int (0 : Int32)), .val (.int (2 : Int32)), .val (.int (0 : Int32)), .val (.int u0)] [(.int (u0.toInt8.toInt32)), (.int (0 : Int32)), (.ref a3)]))
  obtain ⟨cl4, Ar4, q4, S4, M4, H4, G4⟩ := id (Pf1)
  have hin4 : ¬ ((0 : Int32) < 0 ∨ cl4.slots.size ≤ ((0 : Int32)).toNatClampNeg) := inb_of S4 (⟨by decide, by decide⟩)
  obtain ⟨T5, h5, X5, e5, W5, st5⟩ := stB X0 hx hZ e0 Ar4 (j := (0 : Int32)) hin4 (g := (mkF m 31 #[.val (.ref a1), .val (.int (0 : Int32)), .val (.ref a3), .val (.int (0 : Int32)), .val (.int (2 : Int32)), .val (.int (0 : Int32)), .val (.int u0)] [(.int (u0.toInt8.toInt32)), (.int (0 : Int32)), (.ref a3)])) rfl rfl (hb hby d13_31)
  refine own_go st5 ?_
  have V5 : Arv Z h5 a3 kb .byte (2 : Int32) [(.int ((u0.toInt8.toInt32).toInt8.toInt32)), (.int (0 : Int32))] (.int (0 : Int32)) := Arv.set Ar4 q4 S4 M4 H4 G4 (fits_nar_byte _) W5 0 rfl (Nat.le_of_ble_eq_true rfl)
  have N5 := Fr.snoc X5 N0 ge_a3
  have K5 : Keep h0 h5 [a3] := (Keep.refl h0 [a3]).wr W5 (Or.inl (List.mem_of_getElem? (i := 0) rfl))
  show WP p e below _ (T5.setTop (mkF m 32 #[.val (.ref a1), .val (.int (0 : Int32)), .val (.ref a3), .val (.int (0 : Int32)), .val (.int (2 : Int32)), .val (.int (0 : Int32)), .val (.int u0)] []))
  refine own_go (fun t_ k => XS.iinc X5.here hx rfl (hb hby d13_32) rfl (l' := #[.val (.ref a1), .val (.int (1 : Int32)), .val (.ref a3), .val (.int (0 : Int32)), .val (.int (2 : Int32)), .val (.int (0 : Int32)), .val (.int u0)]) rfl k) ?_
  show WP p e below _ (T5.setTop (mkF m 35 #[.val (.ref a1), .val (.int (1 : Int32)), .val (.ref a3), .val (.int (0 : Int32)), .val (.int (2 : Int32)), .val (.int (0 : Int32)), .val (.int u0)] []))
  refine own_go (fun t_ k => XS.iinc X5.here hx rfl (hb hby d13_35) rfl (l' := #[.val (.ref a1), .val (.int (1 : Int32)), .val (.ref a3), .val (.int (1 : Int32)), .val (.int (2 : Int32)), .val (.int (0 : Int32)), .val (.int u0)]) rfl k) ?_
  show WP p e below _ (T5.setTop (mkF m 38 #[.val (.ref a1), .val (.int (1 : Int32)), .val (.ref a3), .val (.int (1 : Int32)), .val (.int (2 : Int32)), .val (.int (0 : Int32)), .val (.int u0)] []))
  refine own_go (fun t_ k => XS.iinc X5.here hx rfl (hb hby d13_38) rfl (l' := #[.val (.ref a1), .val (.int (1 : Int32)), .val (.ref a3), .val (.int (1 : Int32)), .val (.int (2 : Int32)), .val (.int (1 : Int32)), .val (.int u0)]) rfl k) ?_
  show WP p e below _ (T5.setTop (mkF m 41 #[.val (.ref a1), .val (.int (1 : Int32)), .val (.ref a3), .val (.int (1 : Int32)), .val (.int (2 : Int32)), .val (.int (1 : Int32)), .val (.int u0)] []))
  refine own_go (fun t_ k => XS.goto X5.here hx rfl (pc0 := 41) (pc' := 3) rfl (hb hby d13_41) (by decide) (by decide) k) ?_
  show WP p e below _ (T5.setTop (mkF m 3 #[.val (.ref a1), .val (.int (1 : Int32)), .val (.ref a3), .val (.int (1 : Int32)), .val (.int (2 : Int32)), .val (.int (1 : Int32)), .val (.int u0)] []))
  refine own_go (fun t_ k => XS.iload X5.here hx rfl (hb hby d13_3) rfl k) ?_
  show WP p e below _ (T5.setTop (mkF m 5 #[.val (.ref a1), .val (.int (1 : Int32)), .val (.ref a3), .val (.int (1 : Int32)), .val (.int (2 : Int32)), .val (.int (1 : Int32)), .val (.int u0)] [(.int (1 : Int32))]))
  refine own_go (fun t_ k => XS.iload X5.here hx rfl (hb hby d13_5) rfl k) ?_
  show WP p e below _ (T5.setTop (mkF m 7 #[.val (.ref a1), .val (.int (1 : Int32)), .val (.ref a3), .val (.int (1 : Int32)), .val (.int (2 : Int32)), .val (.int (1 : Int32)), .val (.int u0)] [(.int (2 : Int32)), (.int (1 : Int32))]))
  have hc7_6 : ((1 : Int32) < (2 : Int32)) := by decide
  refine own_go (fun t_ k => XS.icmpNo X5.here hx rfl (hb hby d13_7) rfl (tlt hc7_6).2.1 k) ?_
  show WP p e below _ (T5.setTop (mkF m 10 #[.val (.ref a1), .val (.int (1 : Int32)), .val (.ref a3), .val (.int (1 : Int32)), .val (.int (2 : Int32)), .val (.int (1 : Int32)), .val (.int u0)] []))
  refine own_go (fun t_ k => XS.aloadN X5.here hx rfl (hb hby d13_10) rfl rfl k) ?_
  show WP p e below _ (T5.setTop (mkF m 11 #[.val (.ref a1), .val (.int (1 : Int32)), .val (.ref a3), .val (.int (1 : Int32)), .val (.int (2 : Int32)), .val (.int (1 : Int32)), .val (.int u0)] [(.ref a1)]))
  refine own_go (fun t_ k => XS.iloadN X5.here hx rfl (hb hby d13_11) rfl k) ?_
  show WP p e below _ (T5.setTop (mkF m 12 #[.val (.ref a1), .val (.int (1 : Int32)), .val (.ref a3), .val (.int (1 : Int32)), .val (.int (2 : Int32)), .val (.int (1 : Int32)), .val (.int u0)] [(.int (1 : Int32)), (.ref a1)]))
  obtain ⟨cl7, Ar7, -, S7, M7, H7, -⟩ := id ((Pf0.other W5 ne_a1_a3))
  have hin7 : ¬ ((1 : Int32) < 0 ∨ cl7.slots.size ≤ ((1 : Int32)).toNatClampNeg) := inb_of S7 (⟨by decide, by decide⟩)
  refine own_go (fun t_ k => X5.caload hx (j := (1 : Int32)) (v := (.int u1)) (by rw [e5]; exact Ar7.1) (State.isArrayOf_alike hZ.alike Ar7.2.1) Ar7.2.2 hin7 (H7.at hin7 rfl) (g := (mkF m 12 #[.val (.ref a1), .val (.int (1 : Int32)), .val (.ref a3), .val (.int (1 : Int32)), .val (.int (2 : Int32)), .val (.int (1 : Int32)), .val (.int u0)] [(.int (1 : Int32)), (.ref a1)])) rfl rfl (hb hby d13_12) _ k) ?_
  show WP p e below _ (T5.setTop (mkF m 13 #[.val (.ref a1), .val (.int (1 : Int32)), .val (.ref a3), .val (.int (1 : Int32)), .val (.int (2 : Int32)), .val (.int (1 : Int32)), .val (.int u0)] [(.int u1)]))
  refine own_go (fun t_ k => XS.istore X5.here hx rfl (hb hby d13_13) rfl (l' := #[.val (.ref a1), .val (.int (1 : Int32)), .val (.ref a3), .val (.int (1 : Int32)), .val (.int (2 : Int32)), .val (.int (1 : Int32)), .val (.int u1)]) rfl k) ?_
  show WP p e below _ (T5.setTop (mkF m 15 #[.val (.ref a1), .val (.int (1 : Int32)), .val (.ref a3), .val (.int (1 : Int32)), .val (.int (2 : Int32)), .val (.int (1 : Int32)), .val (.int u1)] []))
  refine own_go (fun t_ k => XS.iload X5.here hx rfl (hb hby d13_15) rfl k) ?_
  show WP p e below _ (T5.setTop (mkF m 17 #[.val (.ref a1), .val (.int (1 : Int32)), .val (.ref a3), .val (.int (1 : Int32)), .val (.int (2 : Int32)), .val (.int (1 : Int32)), .val (.int u1)] [(.int u1)]))
  refine own_go (fun t_ k => XS.sipush X5.here hx rfl (hb hby d13_17) k) ?_
  show WP p e below _ (T5.setTop (mkF m 20 #[.val (.ref a1), .val (.int (1 : Int32)), .val (.ref a3), .val (.int (1 : Int32)), .val (.int (2 : Int32)), .val (.int (1 : Int32)), .val (.int u1)] [(.int (255 : Int32)), (.int u1)]))
  have hc20_8 : ¬ ((255 : Int32) < u1) := hu1
  refine own_go (fun t_ k => XS.icmpYes X5.here hx rfl (pc0 := 20) (pc' := 26) rfl (hb hby d13_20) rfl (flt hc20_8).2.2.2 (by decide) (by decide) k) ?_
  show WP p e below _ (T5.setTop (mkF m 26 #[.val (.ref a1), .val (.int (1 : Int32)), .val (.ref a3), .val (.int (1 : Int32)), .val (.int (2 : Int32)), .val (.int (1 : Int32)), .val (.int u1)] []))
  refine own_go (fun t_ k => XS.aloadN X5.here hx rfl (hb hby d13_26) rfl rfl k) ?_
  show WP p e below _ (T5.setTop (mkF m 27 #[.val (.ref a1), .val (.int (1 : Int32)), .val (.ref a3), .val (.int (1 : Int32)), .val (.int (2 : Int32)), .val (.int (1 : Int32)), .val (.int u1)] [(.ref a3)]))
  refine own_go (fun t_ k => XS.iloadN X5.here hx rfl (hb hby d13_27) rfl k) ?_
  show WP p e below _ (T5.setTop (mkF m 28 #[.val (.ref a1), .val (.int (1 : Int32)), .val (.ref a3), .val (.int (1 : Int32)), .val (.int (2 : Int32)), .val (.int (1 : Int32)), .val (.int u1)] [(.int (1 : Int32)), (.ref a3)]))
  refine own_go (fun t_ k => XS.iload X5.here hx rfl (hb hby d13_28) rfl k) ?_
  show WP p e below _ (T5.setTop (mkF m 30 #[.val (.ref a1), .val (.int (1 : Int32)), .val (.ref a3), .val (.int (1 : Int32)), .val (.int (2 : Int32)), .val (.int (1 : Int32)), .val (.int u1)] [(.int u1), (.int (1 : Int32)), (.ref a3)]))
  refine own_go (fun t_ k => XS.i2b X5.here hx rfl (hb hby d13_30) rfl k) ?_
  show WP p e below _ (T5.setTop (mkF m 31 #[.val (.ref a1), .val (.int (1 : Int32)), .val (.ref a3), .val (.int (1 : Int32)), .val (.int (2 : Int32)), .val (.int (1 : Int32)), .val (.int u1)] [(.int (u1.toInt8.toInt32)), (.int (1 : Int32)), (.ref a3)]))
  obtain ⟨cl9, Ar9, q9, S9, M9, H9, G9⟩ := id (V5)
  have hin9 : ¬ ((1 : Int32) < 0 ∨ cl9.slots.size ≤ ((1 : Int32)).toNatClampNeg) := inb_of S9 (⟨by decide, by decide⟩)
  obtain ⟨T10, h10, X10, e10, W10, st10⟩ := stB X5 hx hZ e5 Ar9 (j := (1 : Int32)) hin9 (g := (mkF m 31 #[.val (.ref a1), .val (.int (1 : Int32)), .val (.ref a3), .val (.int (1 : Int32)), .val (.int (2 : Int32)), .val (.int (1 : Int32)), .val (.int u1)] [(.int (u1.toInt8.toInt32)), (.int (1 : Int32)), (.ref a3)])) rfl rfl (hb hby d13_31)
  refine own_go st10 ?_
  have V10 : Arv Z h10 a3 kb .byte (2 : Int32) [(.int ((u0.toInt8.toInt32).toInt8.toInt32)), (.int ((u1.toInt8.toInt32).toInt8.toInt32))] (.int (0 : Int32)) := Arv.set Ar9 q9 S9 M9 H9 G9 (fits_nar_byte _) W10 1 rfl (Nat.le_of_ble_eq_true rfl)
  have N10 := Fr.snoc X10 N5 ge_a3
  have K10 : Keep h0 h10 [a3] := K5.wr W10 (Or.inl (List.mem_of_getElem? (i := 0) rfl))
  show WP p e below _ (T10.setTop (mkF m 32 #[.val (.ref a1), .val (.int (1 : Int32)), .val (.ref a3), .val (.int (1 : Int32)), .val (.int (2 : Int32)), .val (.int (1 : Int32)), .val (.int u1)] []))
  refine own_go (fun t_ k => XS.iinc X10.here hx rfl (hb hby d13_32) rfl (l' := #[.val (.ref a1), .val (.int (2 : Int32)), .val (.ref a3), .val (.int (1 : Int32)), .val (.int (2 : Int32)), .val (.int (1 : Int32)), .val (.int u1)]) rfl k) ?_
  show WP p e below _ (T10.setTop (mkF m 35 #[.val (.ref a1), .val (.int (2 : Int32)), .val (.ref a3), .val (.int (1 : Int32)), .val (.int (2 : Int32)), .val (.int (1 : Int32)), .val (.int u1)] []))
  refine own_go (fun t_ k => XS.iinc X10.here hx rfl (hb hby d13_35) rfl (l' := #[.val (.ref a1), .val (.int (2 : Int32)), .val (.ref a3), .val (.int (2 : Int32)), .val (.int (2 : Int32)), .val (.int (1 : Int32)), .val (.int u1)]) rfl k) ?_
  show WP p e below _ (T10.setTop (mkF m 38 #[.val (.ref a1), .val (.int (2 : Int32)), .val (.ref a3), .val (.int (2 : Int32)), .val (.int (2 : Int32)), .val (.int (1 : Int32)), .val (.int u1)] []))
  refine own_go (fun t_ k => XS.iinc X10.here hx rfl (hb hby d13_38) rfl (l' := #[.val (.ref a1), .val (.int (2 : Int32)), .val (.ref a3), .val (.int (2 : Int32)), .val (.int (2 : Int32)), .val (.int (2 : Int32)), .val (.int u1)]) rfl k) ?_
  show WP p e below _ (T10.setTop (mkF m 41 #[.val (.ref a1), .val (.int (2 : Int32)), .val (.ref a3), .val (.int (2 : Int32)), .val (.int (2 : Int32)), .val (.int (2 : Int32)), .val (.int u1)] []))
  refine own_go (fun t_ k => XS.goto X10.here hx rfl (pc0 := 41) (pc' := 3) rfl (hb hby d13_41) (by decide) (by decide) k) ?_
  show WP p e below _ (T10.setTop (mkF m 3 #[.val (.ref a1), .val (.int (2 : Int32)), .val (.ref a3), .val (.int (2 : Int32)), .val (.int (2 : Int32)), .val (.int (2 : Int32)), .val (.int u1)] []))
  refine own_go (fun t_ k => XS.iload X10.here hx rfl (hb hby d13_3) rfl k) ?_
  show WP p e below _ (T10.setTop (mkF m 5 #[.val (.ref a1), .val (.int (2 : Int32)), .val (.ref a3), .val (.int (2 : Int32)), .val (.int (2 : Int32)), .val (.int (2 : Int32)), .val (.int u1)] [(.int (2 : Int32))]))
  refine own_go (fun t_ k => XS.iload X10.here hx rfl (hb hby d13_5) rfl k) ?_
  show WP p e below _ (T10.setTop (mkF m 7 #[.val (.ref a1), .val (.int (2 : Int32)), .val (.ref a3), .val (.int (2 : Int32)), .val (.int (2 : Int32)), .val (.int (2 : Int32)), .val (.int u1)] [(.int (2 : Int32)), (.int (2 : Int32))]))
  have hc7_11 : ¬ ((2 : Int32) < (2 : Int32)) := by decide
  refine own_go (fun t_ k => XS.icmpYes X10.here hx rfl (pc0 := 7) (pc' := 44) rfl (hb hby d13_7) rfl (flt hc7_11).2.1 (by decide) (by decide) k) ?_
  show WP p e below _ (T10.setTop (mkF m 44 #[.val (.ref a1), .val (.int (2 : Int32)), .val (.ref a3), .val (.int (2 : Int32)), .val (.int (2 : Int32)), .val (.int (2 : Int32)), .val (.int u1)] []))
  refine own_go (fun t_ k => XS.iload X10.here hx rfl (hb hby d13_44) rfl k) ?_
  show WP p e below _ (T10.setTop (mkF m 46 #[.val (.ref a1), .val (.int (2 : Int32)), .val (.ref a3), .val (.int (2 : Int32)), .val (.int (2 : Int32)), .val (.int (2 : Int32)), .val (.int u1)] [(.int (2 : Int32))]))
  exact own_retI X10 hx Bd.notSynchronized Bd.returns (hb hby d13_46) (by rw [e10]; exact ⟨rfl, N10, K10, V10⟩) (by decide) (by decide)
def Q_rmCf_2 (Z : State) (a1 : Addr) (kb : ClassId) (zs : List Value) (h0 : Heap) (n0 : Nat) (v : Option Value) (h : Heap) (L : List Loc) : Prop := v = some (.int (0 : Int32)) ∧ Fr n0 L ∧ h = h0
theorem ef_rmCf_2 (m : MethodId) (x0 : Addr) (x1 : Int32) : entryFrame m #[(.ref x0), (.int x1)] 2 = mkF m 0 #[.val (.ref x0), .val (.int x1)] [] := by first | (simp [entryFrame, mkF, argsToLocals, Value.category]; done) | rfl
set_option maxRecDepth 65536 in
set_option maxHeartbeats 40000000 in
theorem rmCf_2 (l : Launch) (Z : State) (a0 : Array Value) (hw : ∀ d ∈ tables_1, d.before a0 Z = true) (ws : List Jvm.Cond) (a1 : Addr) (kb : ClassId) (zs : List Value) (h0 : Heap) (n0 : Nat) (Pf0 : Arv Z h0 a1 kb .byte (2 : Int32) zs (.int (0 : Int32))) :
    MetFree l (⟨"java/lang/StringUTF16", "coderFromArrayLen", "([BI)B"⟩ : MethodName) (head1 (Jvm.Cond.code (⟨"java/lang/StringUTF16", "coderFromArrayLen", "([BI)B"⟩ : MethodName) jdk_52_method_15_code 2 (some .byte) :: ws) ({ frames := 0, cells := 0, slots := 0, locals := 0 } : Room)) (fun a U => a = #[(.ref a1), (.int (2 : Int32))] ∧ Z.Warmed39 U.vm ∧ U.heap = h0) (fun _ _ _ _ _ => True) (fun _ U o U' => ∃ v L, o = .returned v ∧ (Q_rmCf_2 Z a1 kb zs h0 n0) v U'.heap L ∧ FrameEnd U o U' L ({ frames := 0, cells := 0, slots := 0, locals := 0 } : Room).cells ({ frames := 0, cells := 0, slots := 0, locals := 0 } : Room).slots) := by
  refine MetFree.of_bodySF (plainFor_of_name pn_0) hisR ?_
  intro p e s m args below meth c s₁ Bd hml0 hP hK
  obtain ⟨rfl, hZ, hh⟩ := hP
  have hx := Bd.exec
  have hby := Bd.bytes
  have hml : c.maxLocals = 2 := hml0
  have hown : s.vm.findClass "java/lang/StringUTF16" = some m.cls := findClass_of_methodNamed Bd.named
  have hnm := (name_of_methodNamed Bd.named Bd.method).1
  have X0 : Stand p l e ({ frames := 0, cells := 0, slots := 0, locals := 0 } : Room) s m #[(.ref a1), (.int (2 : Int32))] below meth c s₁ [] 0 0 := Stand.of_body Bd
  have e0 : s₁.heap = h0 := by rw [← hh, Bd.state]; rfl
  have N0 := Fr.nil n0
  show WP p e below (GG (Q_rmCf_2 Z a1 kb zs h0 n0) s ({ frames := 0, cells := 0, slots := 0, locals := 0 } : Room).cells ({ frames := 0, cells := 0, slots := 0, locals := 0 } : Room).slots) (s₁.setTop (entryFrame m #[(.ref a1), (.int (2 : Int32))] 2))
  rw [ef_rmCf_2 m a1 (2 : Int32)]
  show WP p e below _ (s₁.setTop (mkF m 0 #[.val (.ref a1), .val (.int (2 : Int32))] []))
  refine own_go (fun t_ k => XS.iloadN X0.here hx rfl (hb hby d14_0) rfl k) ?_
  show WP p e below _ (s₁.setTop (mkF m 1 #[.val (.ref a1), .val (.int (2 : Int32))] [(.int (2 : Int32))]))
  refine own_go (fun t_ k => XS.aloadN X0.here hx rfl (hb hby d14_1) rfl rfl k) ?_
  show WP p e below _ (s₁.setTop (mkF m 2 #[.val (.ref a1), .val (.int (2 : Int32))] [(.ref a1), (.int (2 : Int32))]))
  obtain ⟨cl1, Ar1, -, S1, M1, -, -⟩ := id (Pf0)
  refine own_go (fun t_ k => X0.arraylength hx (by rw [e0]; exact Ar1.1) (State.isArrayOf_alike hZ.alike Ar1.2.1) (g := (mkF m 2 #[.val (.ref a1), .val (.int (2 : Int32))] [(.ref a1), (.int (2 : Int32))])) rfl rfl (hb hby d14_2) _ (by rw [len_of S1 M1]; exact k)) ?_
  show WP p e below _ (s₁.setTop (mkF m 3 #[.val (.ref a1), .val (.int (2 : Int32))] [(.int (2 : Int32)), (.int (2 : Int32))]))
  refine own_go (fun t_ k => XS.isub X0.here hx rfl (hb hby d14_3) rfl k) ?_
  show WP p e below _ (s₁.setTop (mkF m 4 #[.val (.ref a1), .val (.int (2 : Int32))] [(.int (0 : Int32))]))
  refine own_go (fun t_ k => XS.bipush X0.here hx rfl (hb hby d14_4) k) ?_
  show WP p e below _ (s₁.setTop (mkF m 6 #[.val (.ref a1), .val (.int (2 : Int32))] [(.int (31 : Int32)), (.int (0 : Int32))]))
  refine own_go (fun t_ k => XS.iushr X0.here hx rfl (hb hby d14_6) rfl k) ?_
  show WP p e below _ (s₁.setTop (mkF m 7 #[.val (.ref a1), .val (.int (2 : Int32))] [(.int (0 : Int32))]))
  refine own_go (fun t_ k => XS.i2b X0.here hx rfl (hb hby d14_7) rfl k) ?_
  show WP p e below _ (s₁.setTop (mkF m 8 #[.val (.ref a1), .val (.int (2 : Int32))] [(.int (0 : Int32))]))
  exact own_retB X0 hx Bd.notSynchronized Bd.returns (hb hby d14_8) (⟨rfl, N0, e0⟩) (by decide) (by decide)
def Q_rmCb_1 (Z : State) (a1 : Addr) (kc : ClassId) (u0 : Int32) (h0 : Heap) (n0 : Nat) (v : Option Value) (h : Heap) (L : List Loc) : Prop := ∃ (b1 : Addr), ∃ (k1 : ClassId), v = some (.ref b1) ∧ Fr n0 L ∧ Keep h0 h [] ∧ h0.size ≤ b1 ∧ Arv Z h b1 k1 .byte (1 : Int32) [(.int ((u0.toInt8.toInt32).toInt8.toInt32))] (.int (0 : Int32))
theorem pd_0 : parseMethodDescriptor "([CI[BII)I" = some ⟨[(.array .char), .int, (.array .byte), .int, .int], some .int⟩ := by decide +kernel
theorem d12_0 : decode jdk_52_method_16_code 0 = .ok (.iload_n 2, 1) := by decide +kernel
theorem d12_1 : decode jdk_52_method_16_code 1 = .ok (.newarray .byte, 2) := by decide +kernel
theorem d12_3 : decode jdk_52_method_16_code 3 = .ok (.astore_n 3, 1) := by decide +kernel
theorem d12_4 : decode jdk_52_method_16_code 4 = .ok (.aload_n 0, 1) := by decide +kernel
theorem d12_5 : decode jdk_52_method_16_code 5 = .ok (.iload_n 1, 1) := by decide +kernel
theorem d12_6 : decode jdk_52_method_16_code 6 = .ok (.aload_n 3, 1) := by decide +kernel
theorem d12_7 : decode jdk_52_method_16_code 7 = .ok (.iconst 0, 1) := by decide +kernel
theorem d12_8 : decode jdk_52_method_16_code 8 = .ok (.iload_n 2, 1) := by decide +kernel
theorem d12_9 : decode jdk_52_method_16_code 9 = .ok (.invokestatic 115, 3) := by decide +kernel
theorem d12_12 : decode jdk_52_method_16_code 12 = .ok (.istore 4, 2) := by decide +kernel
theorem d12_14 : decode jdk_52_method_16_code 14 = .ok (.iload 4, 2) := by decide +kernel
theorem d12_16 : decode jdk_52_method_16_code 16 = .ok (.iload_n 2, 1) := by decide +kernel
theorem d12_17 : decode jdk_52_method_16_code 17 = .ok (.if_icmp .eq 40, 3) := by decide +kernel
theorem d12_57 : decode jdk_52_method_16_code 57 = .ok (.aload_n 3, 1) := by decide +kernel
theorem d12_58 : decode jdk_52_method_16_code 58 = .ok (.areturn, 1) := by decide +kernel
theorem ef_rmCb_1 (m : MethodId) (x0 : Addr) (x1 : Int32) (x2 : Int32) : entryFrame m #[(.ref x0), (.int x1), (.int x2)] 6 = mkF m 0 #[.val (.ref x0), .val (.int x1), .val (.int x2), .unset, .unset, .unset] [] := by first | (simp [entryFrame, mkF, argsToLocals, Value.category]; done) | rfl
set_option maxRecDepth 65536 in
set_option maxHeartbeats 40000000 in
theorem rmCb_1 (l : Launch) (Z : State) (a0 : Array Value) (hw : ∀ d ∈ tables_1, d.before a0 Z = true) (ws : List Jvm.Cond) (a1 : Addr) (kc : ClassId) (u0 : Int32) (h0 : Heap) (n0 : Nat) (Z0 : n0 ≤ h0.size) (Pf0 : Arv Z h0 a1 kc .char (1 : Int32) [(.int u0)] (.int (0 : Int32))) (hu0 : ¬ (255 : Int32) < u0) :
    MetFree l (⟨"java/lang/StringUTF16", "compress", "([CII)[B"⟩ : MethodName) (head1 (Jvm.Cond.code (⟨"java/lang/StringUTF16", "compress", "([CII)[B"⟩ : MethodName) jdk_52_method_16_code 6 (some (.array .byte)) :: ws) ({ frames := 1, cells := 1, slots := 1, locals := 18 } : Room)) (fun a U => a = #[(.ref a1), (.int (0 : Int32)), (.int (1 : Int32))] ∧ Z.Warmed39 U.vm ∧ U.heap = h0) (fun _ _ _ _ _ => True) (fun _ U o U' => ∃ v L, o = .returned v ∧ (Q_rmCb_1 Z a1 kc u0 h0 n0) v U'.heap L ∧ FrameEnd U o U' L ({ frames := 1, cells := 1, slots := 1, locals := 18 } : Room).cells ({ frames := 1, cells := 1, slots := 1, locals := 18 } : Room).slots) := by
  refine MetFree.of_bodySF (plainFor_of_name pn_0) hisR ?_
  intro p e s m args below meth c s₁ Bd hml0 hP hK
  obtain ⟨rfl, hZ, hh⟩ := hP
  have hx := Bd.exec
  have hby := Bd.bytes
  have hml : c.maxLocals = 6 := hml0
  have hown : s.vm.findClass "java/lang/StringUTF16" = some m.cls := findClass_of_methodNamed Bd.named
  have hnm := (name_of_methodNamed Bd.named Bd.method).1
  have X0 : Stand p l e ({ frames := 1, cells := 1, slots := 1, locals := 18 } : Room) s m #[(.ref a1), (.int (0 : Int32)), (.int (1 : Int32))] below meth c s₁ [] 0 0 := Stand.of_body Bd
  have e0 : s₁.heap = h0 := by rw [← hh, Bd.state]; rfl
  have N0 := Fr.nil n0
  show WP p e below (GG (Q_rmCb_1 Z a1 kc u0 h0 n0) s ({ frames := 1, cells := 1, slots := 1, locals := 18 } : Room).cells ({ frames := 1, cells := 1, slots := 1, locals := 18 } : Room).slots) (s₁.setTop (entryFrame m #[(.ref a1), (.int (0 : Int32)), (.int (1 : Int32))] 6))
  rw [ef_rmCb_1 m a1 (0 : Int32) (1 : Int32)]
  show WP p e below _ (s₁.setTop (mkF m 0 #[.val (.ref a1), .val (.int (0 : Int32)), .val (.int (1 : Int32)), .unset, .unset, .unset] []))
  refine own_go (fun t_ k => XS.iloadN X0.here hx rfl (hb hby d12_0) rfl k) ?_
  show WP p e below _ (s₁.setTop (mkF m 1 #[.val (.ref a1), .val (.int (0 : Int32)), .val (.int (1 : Int32)), .unset, .unset, .unset] [(.int (1 : Int32))]))
  obtain ⟨T1, h1, k1, X1, e1, E1, A1, st1⟩ := newP X0 hx hZ (hw _ (List.mem_of_getElem? (i := 19) rfl)) e0 (g := (mkF m 1 #[.val (.ref a1), .val (.int (0 : Int32)), .val (.int (1 : Int32)), .unset, .unset, .unset] [(.int (1 : Int32))])) rfl (hb hby d12_1) rfl (by decide) (cap := 1) (by decide) (by decide) (by decide) (by decide)
  obtain ⟨b1, g1⟩ : ∃ z, z = Array.size h0 := ⟨_, rfl⟩
  rw [← g1] at A1 st1
  refine own_go st1 ?_
  have g_b1 : n0 ≤ b1 := Nat.le_trans (Nat.le_trans Z0 (Keep.refl h0 []).1) (Nat.le_of_eq g1.symm)
  have sz_b1 : h0.size ≤ b1 := Nat.le_trans (Keep.refl h0 []).1 (Nat.le_of_eq g1.symm)
  have ne_a1_b1 : a1 ≠ b1 := Nat.ne_of_lt (Nat.lt_of_lt_of_le Pf0.lt (Nat.le_of_eq g1.symm))
  have K1 : Keep h0 h1 [] := (Keep.refl h0 []).ext E1
  have V1 : Arv Z h1 b1 k1 .byte (1 : Int32) [(.int (0 : Int32))] (.int (0 : Int32)) := (Arv.new A1 (by decide)).pad (pad_rep [] (.int (0 : Int32)) 1)
  show WP p e below _ (T1.setTop (mkF m 3 #[.val (.ref a1), .val (.int (0 : Int32)), .val (.int (1 : Int32)), .unset, .unset, .unset] [(.ref b1)]))
  refine own_go (fun t_ k => XS.astoreN X1.here hx rfl (hb hby d12_3) rfl rfl (l' := #[.val (.ref a1), .val (.int (0 : Int32)), .val (.int (1 : Int32)), .val (.ref b1), .unset, .unset]) rfl k) ?_
  show WP p e below _ (T1.setTop (mkF m 4 #[.val (.ref a1), .val (.int (0 : Int32)), .val (.int (1 : Int32)), .val (.ref b1), .unset, .unset] []))
  refine own_go (fun t_ k => XS.aloadN X1.here hx rfl (hb hby d12_4) rfl rfl k) ?_
  show WP p e below _ (T1.setTop (mkF m 5 #[.val (.ref a1), .val (.int (0 : Int32)), .val (.int (1 : Int32)), .val (.ref b1), .unset, .unset] [(.ref a1)]))
  refine own_go (fun t_ k => XS.iloadN X1.here hx rfl (hb hby d12_5) rfl k) ?_
  show WP p e below _ (T1.setTop (mkF m 6 #[.val (.ref a1), .val (.int (0 : Int32)), .val (.int (1 : Int32)), .val (.ref b1), .unset, .unset] [(.int (0 : Int32)), (.ref a1)]))
  refine own_go (fun t_ k => XS.aloadN X1.here hx rfl (hb hby d12_6) rfl rfl k) ?_
  show WP p e below _ (T1.setTop (mkF m 7 #[.val (.ref a1), .val (.int (0 : Int32)), .val (.int (1 : Int32)), .val (.ref b1), .unset, .unset] [(.ref b1), (.int (0 : Int32)), (.ref a1)]))
  refine own_go (fun t_ k => XS.iconst X1.here hx rfl (hb hby d12_7) k) ?_
  show WP p e below _ (T1.setTop (mkF m 8 #[.val (.ref a1), .val (.int (0 : Int32)), .val (.int (1 : Int32)), .val (.ref b1), .unset, .unset] [(.int (0 : Int32)), (.ref b1), (.int (0 : Int32)), (.ref a1)]))
  refine own_go (fun t_ k => XS.iloadN X1.here hx rfl (hb hby d12_8) rfl k) ?_
  show WP p e below _ (T1.setTop (mkF m 9 #[.val (.ref a1), .val (.int (0 : Int32)), .val (.int (1 : Int32)), .val (.ref b1), .unset, .unset] [(.int (1 : Int32)), (.int (0 : Int32)), (.ref b1), (.int (0 : Int32)), (.ref a1)]))
  obtain ⟨_, T2, Lc2, X2, hQ2, st2⟩ := own_un X1 0 0 (Jvm.LawKit.callS X1 hx (y := (⟨"java/lang/StringUTF16", "compress", "([CI[BII)I"⟩ : MethodName)) hown (mvT hZ (hw _ (List.mem_of_getElem? (i := 87) rfl))) (mvT hZ (hw _ (List.mem_of_getElem? (i := 88) rfl))) (mvT hZ (hw _ (List.mem_of_getElem? (i := 85) rfl))) (mvT hZ (hw _ (List.mem_of_getElem? (i := 89) rfl))) (by decide) (backOf (W := 0) (rmCp_1 l Z a0 hw [] a1 b1 kc k1 u0 h1 n0 g_b1 (Pf0.ext E1) V1 ne_a1_b1 hu0) hZ (hw _ (List.mem_of_getElem? (i := 89) rfl)) (hw _ (List.mem_of_getElem? (i := 85) rfl)) (by decide) (by decide)) (g := (mkF m 9 #[.val (.ref a1), .val (.int (0 : Int32)), .val (.int (1 : Int32)), .val (.ref b1), .unset, .unset] [(.int (1 : Int32)), (.int (0 : Int32)), (.ref b1), (.int (0 : Int32)), (.ref a1)])) rfl (by rw [hml]; rfl) (argsL := [(.ref a1), (.int (0 : Int32)), (.ref b1), (.int (0 : Int32)), (.int (1 : Int32))]) (rest := []) (lenOf pd_0 rfl) rfl (by show 2 * 0 + _ ≤ _; exact Nat.le_of_eq rfl) (hb hby d12_9) (fun _ _ => ⟨rfl, e1, (by decide : 1 + 0 ≤ _), (by decide : 1 + 0 ≤ _)⟩))
  dsimp only [Pt.U] at st2
  have er2 : T2.heap = T2.heap := rfl
  obtain ⟨rfl, N2q, K2c, F2c0⟩ := hQ2
  have N2 := Fr.app N0 N2q
  replace X2 : Stand p l e ({ frames := 1, cells := 1, slots := 1, locals := 18 } : Room) s m _ below meth c T2 _ 1 1 := X2
  refine own_go st2 ?_
  have K2 : Keep h0 T2.heap [] := K1.trans K2c (allS (Or.inr sz_b1) all0)
  show WP p e below _ (T2.setTop (mkF m 12 #[.val (.ref a1), .val (.int (0 : Int32)), .val (.int (1 : Int32)), .val (.ref b1), .unset, .unset] [(.int (1 : Int32))]))
  refine own_go (fun t_ k => XS.istore X2.here hx rfl (hb hby d12_12) rfl (l' := #[.val (.ref a1), .val (.int (0 : Int32)), .val (.int (1 : Int32)), .val (.ref b1), .val (.int (1 : Int32)), .unset]) rfl k) ?_
  show WP p e below _ (T2.setTop (mkF m 14 #[.val (.ref a1), .val (.int (0 : Int32)), .val (.int (1 : Int32)), .val (.ref b1), .val (.int (1 : Int32)), .unset] []))
  refine own_go (fun t_ k => XS.iload X2.here hx rfl (hb hby d12_14) rfl k) ?_
  show WP p e below _ (T2.setTop (mkF m 16 #[.val (.ref a1), .val (.int (0 : Int32)), .val (.int (1 : Int32)), .val (.ref b1), .val (.int (1 : Int32)), .unset] [(.int (1 : Int32))]))
  refine own_go (fun t_ k => XS.iloadN X2.here hx rfl (hb hby d12_16) rfl k) ?_
  show WP p e below _ (T2.setTop (mkF m 17 #[.val (.ref a1), .val (.int (0 : Int32)), .val (.int (1 : Int32)), .val (.ref b1), .val (.int (1 : Int32)), .unset] [(.int (1 : Int32)), (.int (1 : Int32))]))
  have hc17_3 : ((1 : Int32) = (1 : Int32)) := by decide
  refine own_go (fun t_ k => XS.icmpYes X2.here hx rfl (pc0 := 17) (pc' := 57) rfl (hb hby d12_17) rfl (teq hc17_3).1 (by decide) (by decide) k) ?_
  show WP p e below _ (T2.setTop (mkF m 57 #[.val (.ref a1), .val (.int (0 : Int32)), .val (.int (1 : Int32)), .val (.ref b1), .val (.int (1 : Int32)), .unset] []))
  refine own_go (fun t_ k => XS.aloadN X2.here hx rfl (hb hby d12_57) rfl rfl k) ?_
  show WP p e below _ (T2.setTop (mkF m 58 #[.val (.ref a1), .val (.int (0 : Int32)), .val (.int (1 : Int32)), .val (.ref b1), .val (.int (1 : Int32)), .unset] [(.ref b1)]))
  exact own_retA X2 hx Bd.notSynchronized Bd.returns rfl rfl (hb hby d12_58) (by rw [er2]; exact ⟨b1, k1, rfl, N2, K2, sz_b1, F2c0⟩) (by decide) (by decide)
def Q_rmCb_2 (Z : State) (a1 : Addr) (kc : ClassId) (u0 : Int32) (u1 : Int32) (h0 : Heap) (n0 : Nat) (v : Option Value) (h : Heap) (L : List Loc) : Prop := ∃ (b1 : Addr), ∃ (k1 : ClassId), v = some (.ref b1) ∧ Fr n0 L ∧ Keep h0 h [] ∧ h0.size ≤ b1 ∧ Arv Z h b1 k1 .byte (2 : Int32) [(.int ((u0.toInt8.toInt32).toInt8.toInt32)), (.int ((u1.toInt8.toInt32).toInt8.toInt32))] (.int (0 : Int32))
theorem ef_rmCb_2 (m : MethodId) (x0 : Addr) (x1 : Int32) (x2 : Int32) : entryFrame m #[(.ref x0), (.int x1), (.int x2)] 6 = mkF m 0 #[.val (.ref x0), .val (.int x1), .val (.int x2), .unset, .unset, .unset] [] := by first | (simp [entryFrame, mkF, argsToLocals, Value.category]; done) | rfl
set_option maxRecDepth 65536 in
set_option maxHeartbeats 40000000 in
theorem rmCb_2 (l : Launch) (Z : State) (a0 : Array Value) (hw : ∀ d ∈ tables_1, d.before a0 Z = true) (ws : List Jvm.Cond) (a1 : Addr) (kc : ClassId) (u0 : Int32) (u1 : Int32) (h0 : Heap) (n0 : Nat) (Z0 : n0 ≤ h0.size) (Pf0 : Arv Z h0 a1 kc .char (2 : Int32) [(.int u0), (.int u1)] (.int (0 : Int32))) (hu0 : ¬ (255 : Int32) < u0) (hu1 : ¬ (255 : Int32) < u1) :
    MetFree l (⟨"java/lang/StringUTF16", "compress", "([CII)[B"⟩ : MethodName) (head1 (Jvm.Cond.code (⟨"java/lang/StringUTF16", "compress", "([CII)[B"⟩ : MethodName) jdk_52_method_16_code 6 (some (.array .byte)) :: ws) ({ frames := 1, cells := 1, slots := 2, locals := 18 } : Room)) (fun a U => a = #[(.ref a1), (.int (0 : Int32)), (.int (2 : Int32))] ∧ Z.Warmed39 U.vm ∧ U.heap = h0) (fun _ _ _ _ _ => True) (fun _ U o U' => ∃ v L, o = .returned v ∧ (Q_rmCb_2 Z a1 kc u0 u1 h0 n0) v U'.heap L ∧ FrameEnd U o U' L ({ frames := 1, cells := 1, slots := 2, locals := 18 } : Room).cells ({ frames := 1, cells := 1, slots := 2, locals := 18 } : Room).slots) := by
  refine MetFree.of_bodySF (plainFor_of_name pn_0) hisR ?_
  intro p e s m args below meth c s₁ Bd hml0 hP hK
  obtain ⟨rfl, hZ, hh⟩ := hP
  have hx := Bd.exec
  have hby := Bd.bytes
  have hml : c.maxLocals = 6 := hml0
  have hown : s.vm.findClass "java/lang/StringUTF16" = some m.cls := findClass_of_methodNamed Bd.named
  have hnm := (name_of_methodNamed Bd.named Bd.method).1
  have X0 : Stand p l e ({ frames := 1, cells := 1, slots := 2, locals := 18 } : Room) s m #[(.ref a1), (.int (0 : Int32)), (.int (2 : Int32))] below meth c s₁ [] 0 0 := Stand.of_body Bd
  have e0 : s₁.heap = h0 := by rw [← hh, Bd.state]; rfl
  have N0 := Fr.nil n0
  show WP p e below (GG (Q_rmCb_2 Z a1 kc u0 u1 h0 n0) s ({ frames := 1, cells := 1, slots := 2, locals := 18 } : Room).cells ({ frames := 1, cells := 1, slots := 2, locals := 18 } : Room).slots) (s₁.setTop (entryFrame m #[(.ref a1), (.int (0 : Int32)), (.int (2 : Int32))] 6))
  rw [ef_rmCb_2 m a1 (0 : Int32) (2 : Int32)]
  show WP p e below _ (s₁.setTop (mkF m 0 #[.val (.ref a1), .val (.int (0 : Int32)), .val (.int (2 : Int32)), .unset, .unset, .unset] []))
  refine own_go (fun t_ k => XS.iloadN X0.here hx rfl (hb hby d12_0) rfl k) ?_
  show WP p e below _ (s₁.setTop (mkF m 1 #[.val (.ref a1), .val (.int (0 : Int32)), .val (.int (2 : Int32)), .unset, .unset, .unset] [(.int (2 : Int32))]))
  obtain ⟨T1, h1, k1, X1, e1, E1, A1, st1⟩ := newP X0 hx hZ (hw _ (List.mem_of_getElem? (i := 19) rfl)) e0 (g := (mkF m 1 #[.val (.ref a1), .val (.int (0 : Int32)), .val (.int (2 : Int32)), .unset, .unset, .unset] [(.int (2 : Int32))])) rfl (hb hby d12_1) rfl (by decide) (cap := 2) (by decide) (by decide) (by decide) (by decide)
  obtain ⟨b1, g1⟩ : ∃ z, z = Array.size h0 := ⟨_, rfl⟩
  rw [← g1] at A1 st1
  refine own_go st1 ?_
  have g_b1 : n0 ≤ b1 := Nat.le_trans (Nat.le_trans Z0 (Keep.refl h0 []).1) (Nat.le_of_eq g1.symm)
  have sz_b1 : h0.size ≤ b1 := Nat.le_trans (Keep.refl h0 []).1 (Nat.le_of_eq g1.symm)
  have ne_a1_b1 : a1 ≠ b1 := Nat.ne_of_lt (Nat.lt_of_lt_of_le Pf0.lt (Nat.le_of_eq g1.symm))
  have K1 : Keep h0 h1 [] := (Keep.refl h0 []).ext E1
  have V1 : Arv Z h1 b1 k1 .byte (2 : Int32) [(.int (0 : Int32)), (.int (0 : Int32))] (.int (0 : Int32)) := (Arv.new A1 (by decide)).pad (pad_rep [] (.int (0 : Int32)) 2)
  show WP p e below _ (T1.setTop (mkF m 3 #[.val (.ref a1), .val (.int (0 : Int32)), .val (.int (2 : Int32)), .unset, .unset, .unset] [(.ref b1)]))
  refine own_go (fun t_ k => XS.astoreN X1.here hx rfl (hb hby d12_3) rfl rfl (l' := #[.val (.ref a1), .val (.int (0 : Int32)), .val (.int (2 : Int32)), .val (.ref b1), .unset, .unset]) rfl k) ?_
  show WP p e below _ (T1.setTop (mkF m 4 #[.val (.ref a1), .val (.int (0 : Int32)), .val (.int (2 : Int32)), .val (.ref b1), .unset, .unset] []))
  refine own_go (fun t_ k => XS.aloadN X1.here hx rfl (hb hby d12_4) rfl rfl k) ?_
  show WP p e below _ (T1.setTop (mkF m 5 #[.val (.ref a1), .val (.int (0 : Int32)), .val (.int (2 : Int32)), .val (.ref b1), .unset, .unset] [(.ref a1)]))
  refine own_go (fun t_ k => XS.iloadN X1.here hx rfl (hb hby d12_5) rfl k) ?_
  show WP p e below _ (T1.setTop (mkF m 6 #[.val (.ref a1), .val (.int (0 : Int32)), .val (.int (2 : Int32)), .val (.ref b1), .unset, .unset] [(.int (0 : Int32)), (.ref a1)]))
  refine own_go (fun t_ k => XS.aloadN X1.here hx rfl (hb hby d12_6) rfl rfl k) ?_
  show WP p e below _ (T1.setTop (mkF m 7 #[.val (.ref a1), .val (.int (0 : Int32)), .val (.int (2 : Int32)), .val (.ref b1), .unset, .unset] [(.ref b1), (.int (0 : Int32)), (.ref a1)]))
  refine own_go (fun t_ k => XS.iconst X1.here hx rfl (hb hby d12_7) k) ?_
  show WP p e below _ (T1.setTop (mkF m 8 #[.val (.ref a1), .val (.int (0 : Int32)), .val (.int (2 : Int32)), .val (.ref b1), .unset, .unset] [(.int (0 : Int32)), (.ref b1), (.int (0 : Int32)), (.ref a1)]))
  refine own_go (fun t_ k => XS.iloadN X1.here hx rfl (hb hby d12_8) rfl k) ?_
  show WP p e below _ (T1.setTop (mkF m 9 #[.val (.ref a1), .val (.int (0 : Int32)), .val (.int (2 : Int32)), .val (.ref b1), .unset, .unset] [(.int (2 : Int32)), (.int (0 : Int32)), (.ref b1), (.int (0 : Int32)), (.ref a1)]))
  obtain ⟨_, T2, Lc2, X2, hQ2, st2⟩ := own_un X1 0 0 (Jvm.LawKit.callS X1 hx (y := (⟨"java/lang/StringUTF16", "compress", "([CI[BII)I"⟩ : MethodName)) hown (mvT hZ (hw _ (List.mem_of_getElem? (i := 87) rfl))) (mvT hZ (hw _ (List.mem_of_getElem? (i := 88) rfl))) (mvT hZ (hw _ (List.mem_of_getElem? (i := 85) rfl))) (mvT hZ (hw _ (List.mem_of_getElem? (i := 89) rfl))) (by decide) (backOf (W := 0) (rmCp_2 l Z a0 hw [] a1 b1 kc k1 u0 u1 h1 n0 g_b1 (Pf0.ext E1) V1 ne_a1_b1 hu0 hu1) hZ (hw _ (List.mem_of_getElem? (i := 89) rfl)) (hw _ (List.mem_of_getElem? (i := 85) rfl)) (by decide) (by decide)) (g := (mkF m 9 #[.val (.ref a1), .val (.int (0 : Int32)), .val (.int (2 : Int32)), .val (.ref b1), .unset, .unset] [(.int (2 : Int32)), (.int (0 : Int32)), (.ref b1), (.int (0 : Int32)), (.ref a1)])) rfl (by rw [hml]; rfl) (argsL := [(.ref a1), (.int (0 : Int32)), (.ref b1), (.int (0 : Int32)), (.int (2 : Int32))]) (rest := []) (lenOf pd_0 rfl) rfl (by show 2 * 0 + _ ≤ _; exact Nat.le_of_eq rfl) (hb hby d12_9) (fun _ _ => ⟨rfl, e1, (by decide : 1 + 0 ≤ _), (by decide : 2 + 0 ≤ _)⟩))
  dsimp only [Pt.U] at st2
  have er2 : T2.heap = T2.heap := rfl
  obtain ⟨rfl, N2q, K2c, F2c0⟩ := hQ2
  have N2 := Fr.app N0 N2q
  replace X2 : Stand p l e ({ frames := 1, cells := 1, slots := 2, locals := 18 } : Room) s m _ below meth c T2 _ 1 2 := X2
  refine own_go st2 ?_
  have K2 : Keep h0 T2.heap [] := K1.trans K2c (allS (Or.inr sz_b1) all0)
  show WP p e below _ (T2.setTop (mkF m 12 #[.val (.ref a1), .val (.int (0 : Int32)), .val (.int (2 : Int32)), .val (.ref b1), .unset, .unset] [(.int (2 : Int32))]))
  refine own_go (fun t_ k => XS.istore X2.here hx rfl (hb hby d12_12) rfl (l' := #[.val (.ref a1), .val (.int (0 : Int32)), .val (.int (2 : Int32)), .val (.ref b1), .val (.int (2 : Int32)), .unset]) rfl k) ?_
  show WP p e below _ (T2.setTop (mkF m 14 #[.val (.ref a1), .val (.int (0 : Int32)), .val (.int (2 : Int32)), .val (.ref b1), .val (.int (2 : Int32)), .unset] []))
  refine own_go (fun t_ k => XS.iload X2.here hx rfl (hb hby d12_14) rfl k) ?_
  show WP p e below _ (T2.setTop (mkF m 16 #[.val (.ref a1), .val (.int (0 : Int32)), .val (.int (2 : Int32)), .val (.ref b1), .val (.int (2 : Int32)), .unset] [(.int (2 : Int32))]))
  refine own_go (fun t_ k => XS.iloadN X2.here hx rfl (hb hby d12_16) rfl k) ?_
  show WP p e below _ (T2.setTop (mkF m 17 #[.val (.ref a1), .val (.int (0 : Int32)), .val (.int (2 : Int32)), .val (.ref b1), .val (.int (2 : Int32)), .unset] [(.int (2 : Int32)), (.int (2 : Int32))]))
  have hc17_3 : ((2 : Int32) = (2 : Int32)) := by decide
  refine own_go (fun t_ k => XS.icmpYes X2.here hx rfl (pc0 := 17) (pc' := 57) rfl (hb hby d12_17) rfl (teq hc17_3).1 (by decide) (by decide) k) ?_
  show WP p e below _ (T2.setTop (mkF m 57 #[.val (.ref a1), .val (.int (0 : Int32)), .val (.int (2 : Int32)), .val (.ref b1), .val (.int (2 : Int32)), .unset] []))
  refine own_go (fun t_ k => XS.aloadN X2.here hx rfl (hb hby d12_57) rfl rfl k) ?_
  show WP p e below _ (T2.setTop (mkF m 58 #[.val (.ref a1), .val (.int (0 : Int32)), .val (.int (2 : Int32)), .val (.ref b1), .val (.int (2 : Int32)), .unset] [(.ref b1)]))
  exact own_retA X2 hx Bd.notSynchronized Bd.returns rfl rfl (hb hby d12_58) (by rw [er2]; exact ⟨b1, k1, rfl, N2, K2, sz_b1, F2c0⟩) (by decide) (by decide)
def Q_rmCg_1 (Z : State) (a1 : Addr) (kb : ClassId) (u0 : Int32) (h0 : Heap) (n0 : Nat) (v : Option Value) (h : Heap) (L : List Loc) : Prop := v = some (.int (0 : Int32)) ∧ Fr n0 L ∧ h = h0
theorem ef_rmCg_1 (m : MethodId) (x0 : Addr) (x1 : Int32) : entryFrame m #[(.ref x0), (.int x1)] 2 = mkF m 0 #[.val (.ref x0), .val (.int x1)] [] := by first | (simp [entryFrame, mkF, argsToLocals, Value.category]; done) | rfl
set_option maxRecDepth 65536 in
set_option maxHeartbeats 40000000 in
theorem rmCg_1 (l : Launch) (Z : State) (a0 : Array Value) (hw : ∀ d ∈ tables_1, d.before a0 Z = true) (ws : List Jvm.Cond) (a1 : Addr) (kb : ClassId) (u0 : Int32) (h0 : Heap) (n0 : Nat) (Pf0 : Arv Z h0 a1 kb .byte (1 : Int32) [(.int u0)] (.int (0 : Int32))) :
    MetFree l (⟨"java/lang/StringUTF16", "coderFromArrayLen", "([BI)B"⟩ : MethodName) (head1 (Jvm.Cond.code (⟨"java/lang/StringUTF16", "coderFromArrayLen", "([BI)B"⟩ : MethodName) jdk_52_method_15_code 2 (some .byte) :: ws) ({ frames := 0, cells := 0, slots := 0, locals := 0 } : Room)) (fun a U => a = #[(.ref a1), (.int (1 : Int32))] ∧ Z.Warmed39 U.vm ∧ U.heap = h0) (fun _ _ _ _ _ => True) (fun _ U o U' => ∃ v L, o = .returned v ∧ (Q_rmCg_1 Z a1 kb u0 h0 n0) v U'.heap L ∧ FrameEnd U o U' L ({ frames := 0, cells := 0, slots := 0, locals := 0 } : Room).cells ({ frames := 0, cells := 0, slots := 0, locals := 0 } : Room).slots) := by
  refine MetFree.of_bodySF (plainFor_of_name pn_0) hisR ?_
  intro p e s m args below meth c s₁ Bd hml0 hP hK
  obtain ⟨rfl, hZ, hh⟩ := hP
  have hx := Bd.exec
  have hby := Bd.bytes
  have hml : c.maxLocals = 2 := hml0
  have hown : s.vm.findClass "java/lang/StringUTF16" = some m.cls := findClass_of_methodNamed Bd.named
  have hnm := (name_of_methodNamed Bd.named Bd.method).1
  have X0 : Stand p l e ({ frames := 0, cells := 0, slots := 0, locals := 0 } : Room) s m #[(.ref a1), (.int (1 : Int32))] below meth c s₁ [] 0 0 := Stand.of_body Bd
  have e0 : s₁.heap = h0 := by rw [← hh, Bd.state]; rfl
  have N0 := Fr.nil n0
  show WP p e below (GG (Q_rmCg_1 Z a1 kb u0 h0 n0) s ({ frames := 0, cells := 0, slots := 0, locals := 0 } : Room).cells ({ frames := 0, cells := 0, slots := 0, locals := 0 } : Room).slots) (s₁.setTop (entryFrame m #[(.ref a1), (.int (1 : Int32))] 2))
  rw [ef_rmCg_1 m a1 (1 : Int32)]
  show WP p e below _ (s₁.setTop (mkF m 0 #[.val (.ref a1), .val (.int (1 : Int32))] []))
  refine own_go (fun t_ k => XS.iloadN X0.here hx rfl (hb hby d14_0) rfl k) ?_
  show WP p e below _ (s₁.setTop (mkF m 1 #[.val (.ref a1), .val (.int (1 : Int32))] [(.int (1 : Int32))]))
  refine own_go (fun t_ k => XS.aloadN X0.here hx rfl (hb hby d14_1) rfl rfl k) ?_
  show WP p e below _ (s₁.setTop (mkF m 2 #[.val (.ref a1), .val (.int (1 : Int32))] [(.ref a1), (.int (1 : Int32))]))
  obtain ⟨cl1, Ar1, -, S1, M1, -, -⟩ := id (Pf0)
  refine own_go (fun t_ k => X0.arraylength hx (by rw [e0]; exact Ar1.1) (State.isArrayOf_alike hZ.alike Ar1.2.1) (g := (mkF m 2 #[.val (.ref a1), .val (.int (1 : Int32))] [(.ref a1), (.int (1 : Int32))])) rfl rfl (hb hby d14_2) _ (by rw [len_of S1 M1]; exact k)) ?_
  show WP p e below _ (s₁.setTop (mkF m 3 #[.val (.ref a1), .val (.int (1 : Int32))] [(.int (1 : Int32)), (.int (1 : Int32))]))
  refine own_go (fun t_ k => XS.isub X0.here hx rfl (hb hby d14_3) rfl k) ?_
  show WP p e below _ (s₁.setTop (mkF m 4 #[.val (.ref a1), .val (.int (1 : Int32))] [(.int (0 : Int32))]))
  refine own_go (fun t_ k => XS.bipush X0.here hx rfl (hb hby d14_4) k) ?_
  show WP p e below _ (s₁.setTop (mkF m 6 #[.val (.ref a1), .val (.int (1 : Int32))] [(.int (31 : Int32)), (.int (0 : Int32))]))
  refine own_go (fun t_ k => XS.iushr X0.here hx rfl (hb hby d14_6) rfl k) ?_
  show WP p e below _ (s₁.setTop (mkF m 7 #[.val (.ref a1), .val (.int (1 : Int32))] [(.int (0 : Int32))]))
  refine own_go (fun t_ k => XS.i2b X0.here hx rfl (hb hby d14_7) rfl k) ?_
  show WP p e below _ (s₁.setTop (mkF m 8 #[.val (.ref a1), .val (.int (1 : Int32))] [(.int (0 : Int32))]))
  exact own_retB X0 hx Bd.notSynchronized Bd.returns (hb hby d14_8) (⟨rfl, N0, e0⟩) (by decide) (by decide)
def Q_rmCg_2 (Z : State) (a1 : Addr) (kb : ClassId) (u0 : Int32) (u1 : Int32) (h0 : Heap) (n0 : Nat) (v : Option Value) (h : Heap) (L : List Loc) : Prop := v = some (.int (0 : Int32)) ∧ Fr n0 L ∧ h = h0
theorem ef_rmCg_2 (m : MethodId) (x0 : Addr) (x1 : Int32) : entryFrame m #[(.ref x0), (.int x1)] 2 = mkF m 0 #[.val (.ref x0), .val (.int x1)] [] := by first | (simp [entryFrame, mkF, argsToLocals, Value.category]; done) | rfl
set_option maxRecDepth 65536 in
set_option maxHeartbeats 40000000 in
theorem rmCg_2 (l : Launch) (Z : State) (a0 : Array Value) (hw : ∀ d ∈ tables_1, d.before a0 Z = true) (ws : List Jvm.Cond) (a1 : Addr) (kb : ClassId) (u0 : Int32) (u1 : Int32) (h0 : Heap) (n0 : Nat) (Pf0 : Arv Z h0 a1 kb .byte (2 : Int32) [(.int u0), (.int u1)] (.int (0 : Int32))) :
    MetFree l (⟨"java/lang/StringUTF16", "coderFromArrayLen", "([BI)B"⟩ : MethodName) (head1 (Jvm.Cond.code (⟨"java/lang/StringUTF16", "coderFromArrayLen", "([BI)B"⟩ : MethodName) jdk_52_method_15_code 2 (some .byte) :: ws) ({ frames := 0, cells := 0, slots := 0, locals := 0 } : Room)) (fun a U => a = #[(.ref a1), (.int (2 : Int32))] ∧ Z.Warmed39 U.vm ∧ U.heap = h0) (fun _ _ _ _ _ => True) (fun _ U o U' => ∃ v L, o = .returned v ∧ (Q_rmCg_2 Z a1 kb u0 u1 h0 n0) v U'.heap L ∧ FrameEnd U o U' L ({ frames := 0, cells := 0, slots := 0, locals := 0 } : Room).cells ({ frames := 0, cells := 0, slots := 0, locals := 0 } : Room).slots) := by
  refine MetFree.of_bodySF (plainFor_of_name pn_0) hisR ?_
  intro p e s m args below meth c s₁ Bd hml0 hP hK
  obtain ⟨rfl, hZ, hh⟩ := hP
  have hx := Bd.exec
  have hby := Bd.bytes
  have hml : c.maxLocals = 2 := hml0
  have hown : s.vm.findClass "java/lang/StringUTF16" = some m.cls := findClass_of_methodNamed Bd.named
  have hnm := (name_of_methodNamed Bd.named Bd.method).1
  have X0 : Stand p l e ({ frames := 0, cells := 0, slots := 0, locals := 0 } : Room) s m #[(.ref a1), (.int (2 : Int32))] below meth c s₁ [] 0 0 := Stand.of_body Bd
  have e0 : s₁.heap = h0 := by rw [← hh, Bd.state]; rfl
  have N0 := Fr.nil n0
  show WP p e below (GG (Q_rmCg_2 Z a1 kb u0 u1 h0 n0) s ({ frames := 0, cells := 0, slots := 0, locals := 0 } : Room).cells ({ frames := 0, cells := 0, slots := 0, locals := 0 } : Room).slots) (s₁.setTop (entryFrame m #[(.ref a1), (.int (2 : Int32))] 2))
  rw [ef_rmCg_2 m a1 (2 : Int32)]
  show WP p e below _ (s₁.setTop (mkF m 0 #[.val (.ref a1), .val (.int (2 : Int32))] []))
  refine own_go (fun t_ k => XS.iloadN X0.here hx rfl (hb hby d14_0) rfl k) ?_
  show WP p e below _ (s₁.setTop (mkF m 1 #[.val (.ref a1), .val (.int (2 : Int32))] [(.int (2 : Int32))]))
  refine own_go (fun t_ k => XS.aloadN X0.here hx rfl (hb hby d14_1) rfl rfl k) ?_
  show WP p e below _ (s₁.setTop (mkF m 2 #[.val (.ref a1), .val (.int (2 : Int32))] [(.ref a1), (.int (2 : Int32))]))
  obtain ⟨cl1, Ar1, -, S1, M1, -, -⟩ := id (Pf0)
  refine own_go (fun t_ k => X0.arraylength hx (by rw [e0]; exact Ar1.1) (State.isArrayOf_alike hZ.alike Ar1.2.1) (g := (mkF m 2 #[.val (.ref a1), .val (.int (2 : Int32))] [(.ref a1), (.int (2 : Int32))])) rfl rfl (hb hby d14_2) _ (by rw [len_of S1 M1]; exact k)) ?_
  show WP p e below _ (s₁.setTop (mkF m 3 #[.val (.ref a1), .val (.int (2 : Int32))] [(.int (2 : Int32)), (.int (2 : Int32))]))
  refine own_go (fun t_ k => XS.isub X0.here hx rfl (hb hby d14_3) rfl k) ?_
  show WP p e below _ (s₁.setTop (mkF m 4 #[.val (.ref a1), .val (.int (2 : Int32))] [(.int (0 : Int32))]))
  refine own_go (fun t_ k => XS.bipush X0.here hx rfl (hb hby d14_4) k) ?_
  show WP p e below _ (s₁.setTop (mkF m 6 #[.val (.ref a1), .val (.int (2 : Int32))] [(.int (31 : Int32)), (.int (0 : Int32))]))
  refine own_go (fun t_ k => XS.iushr X0.here hx rfl (hb hby d14_6) rfl k) ?_
  show WP p e below _ (s₁.setTop (mkF m 7 #[.val (.ref a1), .val (.int (2 : Int32))] [(.int (0 : Int32))]))
  refine own_go (fun t_ k => XS.i2b X0.here hx rfl (hb hby d14_7) rfl k) ?_
  show WP p e below _ (s₁.setTop (mkF m 8 #[.val (.ref a1), .val (.int (2 : Int32))] [(.int (0 : Int32))]))
  exact own_retB X0 hx Bd.notSynchronized Bd.returns (hb hby d14_8) (⟨rfl, N0, e0⟩) (by decide) (by decide)
def Q_rmS3_1 (Z : State) (a1 : Addr) (a2 : Addr) (kc : ClassId) (cs : Int32) (u0 : Int32) (h0 : Heap) (n0 : Nat) (v : Option Value) (h : Heap) (L : List Loc) : Prop := ∃ (b5_0 : Addr), ∃ (kb5_0 : ClassId), v = none ∧ Fr n0 L ∧ Keep h0 h [a1] ∧ h0.size ≤ b5_0 ∧ Exa Z h a1 "java/lang/String" ∧ Fld Z h a1 "java/lang/String" "value" "[B" (.ref b5_0) ∧ Fld Z h a1 "java/lang/String" "coder" "B" (.int (0 : Int32)) ∧ Arv Z h b5_0 kb5_0 .byte (1 : Int32) [(.int ((u0.toInt8.toInt32).toInt8.toInt32))] (.int (0 : Int32))
theorem pd_1 : parseMethodDescriptor "([CII)[B" = some ⟨[(.array .char), .int, .int], some (.array .byte)⟩ := by decide +kernel
theorem pd_2 : parseMethodDescriptor "([BI)B" = some ⟨[(.array .byte), .int], some .byte⟩ := by decide +kernel
theorem d3_0 : decode jdk_42_method_149_code 0 = .ok (.aload_n 0, 1) := by decide +kernel
theorem d3_1 : decode jdk_42_method_149_code 1 = .ok (.invokespecial 1, 3) := by decide +kernel
theorem d3_4 : decode jdk_42_method_149_code 4 = .ok (.iload_n 3, 1) := by decide +kernel
theorem d3_5 : decode jdk_42_method_149_code 5 = .ok (.ifCond .ne 22, 3) := by decide +kernel
theorem d3_27 : decode jdk_42_method_149_code 27 = .ok (.getstatic 38, 3) := by decide +kernel
theorem d3_30 : decode jdk_42_method_149_code 30 = .ok (.ifCond .eq 28, 3) := by decide +kernel
theorem d3_33 : decode jdk_42_method_149_code 33 = .ok (.aload_n 1, 1) := by decide +kernel
theorem d3_34 : decode jdk_42_method_149_code 34 = .ok (.iload_n 2, 1) := by decide +kernel
theorem d3_35 : decode jdk_42_method_149_code 35 = .ok (.iload_n 3, 1) := by decide +kernel
theorem d3_36 : decode jdk_42_method_149_code 36 = .ok (.invokestatic 177, 3) := by decide +kernel
theorem d3_39 : decode jdk_42_method_149_code 39 = .ok (.astore 5, 2) := by decide +kernel
theorem d3_41 : decode jdk_42_method_149_code 41 = .ok (.aload_n 0, 1) := by decide +kernel
theorem d3_42 : decode jdk_42_method_149_code 42 = .ok (.aload 5, 2) := by decide +kernel
theorem d3_44 : decode jdk_42_method_149_code 44 = .ok (.iload_n 3, 1) := by decide +kernel
theorem d3_45 : decode jdk_42_method_149_code 45 = .ok (.invokestatic 47, 3) := by decide +kernel
theorem d3_48 : decode jdk_42_method_149_code 48 = .ok (.putfield 15, 3) := by decide +kernel
theorem d3_51 : decode jdk_42_method_149_code 51 = .ok (.aload_n 0, 1) := by decide +kernel
theorem d3_52 : decode jdk_42_method_149_code 52 = .ok (.aload 5, 2) := by decide +kernel
theorem d3_54 : decode jdk_42_method_149_code 54 = .ok (.putfield 9, 3) := by decide +kernel
theorem d3_57 : decode jdk_42_method_149_code 57 = .ok (.return_, 1) := by decide +kernel
theorem pn_1 : plainName "java/lang/String" = true := by first | (simp [plainName, overriddenIn]; done) | decide +kernel
theorem ef_rmS3_1 (m : MethodId) (x0 : Addr) (x1 : Addr) (x2 : Int32) (x3 : Int32) : entryFrame m #[(.ref x0), (.ref x1), (.int x2), (.int x3), .null] 6 = mkF m 0 #[.val (.ref x0), .val (.ref x1), .val (.int x2), .val (.int x3), .val .null, .unset] [] := by first | (simp [entryFrame, mkF, argsToLocals, Value.category]; done) | rfl
set_option maxRecDepth 65536 in
set_option maxHeartbeats 40000000 in
theorem rmS3_1 (l : Launch) (Z : State) (a0 : Array Value) (hw : ∀ d ∈ tables_1, d.before a0 Z = true) (ws : List Jvm.Cond) (a1 : Addr) (a2 : Addr) (kc : ClassId) (cs : Int32) (u0 : Int32) (h0 : Heap) (n0 : Nat) (Z0 : n0 ≤ h0.size) (ge_a1 : n0 ≤ a1) (Pf0 : Exa Z h0 a1 "java/lang/String") (Pf1 : Fld Z h0 a1 "java/lang/String" "value" "[B" .null) (Pf2 : Fld Z h0 a1 "java/lang/String" "coder" "B" (.int (0 : Int32))) (Pf3 : Arv Z h0 a2 kc .char (1 : Int32) [(.int u0)] (.int (0 : Int32))) (Pf4 : Sta Z h0 "java/lang/String" "COMPACT_STRINGS" "Z" (.int cs)) (ne_a1_a2 : a1 ≠ a2) (hcs : ¬ cs = (0 : Int32)) (hu0 : ¬ (255 : Int32) < u0) :
    MetFree l (⟨"java/lang/String", "<init>", "([CIILjava/lang/Void;)V"⟩ : MethodName) (head1 (Jvm.Cond.code (⟨"java/lang/String", "<init>", "([CIILjava/lang/Void;)V"⟩ : MethodName) jdk_42_method_149_code 6 none :: ws) ({ frames := 2, cells := 1, slots := 1, locals := 35 } : Room)) (fun a U => a = #[(.ref a1), (.ref a2), (.int (0 : Int32)), (.int (1 : Int32)), .null] ∧ Z.Warmed39 U.vm ∧ U.heap = h0) (fun _ _ _ _ _ => True) (fun _ U o U' => ∃ v L, o = .returned v ∧ (Q_rmS3_1 Z a1 a2 kc cs u0 h0 n0) v U'.heap L ∧ FrameEnd U o U' L ({ frames := 2, cells := 1, slots := 1, locals := 35 } : Room).cells ({ frames := 2, cells := 1, slots := 1, locals := 35 } : Room).slots) := by
  refine MetFree.of_bodySF (plainFor_of_name pn_1) hisR ?_
  intro p e s m args below meth c s₁ Bd hml0 hP hK
  obtain ⟨rfl, hZ, hh⟩ := hP
  have hx := Bd.exec
  have hby := Bd.bytes
  have hml : c.maxLocals = 6 := hml0
  have hown : s.vm.findClass "java/lang/String" = some m.cls := findClass_of_methodNamed Bd.named
  have hnm := (name_of_methodNamed Bd.named Bd.method).1
  have X0 : Stand p l e ({ frames := 2, cells := 1, slots := 1, locals := 35 } : Room) s m #[(.ref a1), (.ref a2), (.int (0 : Int32)), (.int (1 : Int32)), .null] below meth c s₁ [] 0 0 := Stand.of_body Bd
  have e0 : s₁.heap = h0 := by rw [← hh, Bd.state]; rfl
  have N0 := Fr.nil n0
  show WP p e below (GG (Q_rmS3_1 Z a1 a2 kc cs u0 h0 n0) s ({ frames := 2, cells := 1, slots := 1, locals := 35 } : Room).cells ({ frames := 2, cells := 1, slots := 1, locals := 35 } : Room).slots) (s₁.setTop (entryFrame m #[(.ref a1), (.ref a2), (.int (0 : Int32)), (.int (1 : Int32)), .null] 6))
  rw [ef_rmS3_1 m a1 a2 (0 : Int32) (1 : Int32)]
  show WP p e below _ (s₁.setTop (mkF m 0 #[.val (.ref a1), .val (.ref a2), .val (.int (0 : Int32)), .val (.int (1 : Int32)), .val .null, .unset] []))
  refine own_go (fun t_ k => XS.aloadN X0.here hx rfl (hb hby d3_0) rfl rfl k) ?_
  show WP p e below _ (s₁.setTop (mkF m 1 #[.val (.ref a1), .val (.ref a2), .val (.int (0 : Int32)), .val (.int (1 : Int32)), .val .null, .unset] [(.ref a1)]))
  obtain ⟨T1, X1, e1, st1⟩ := initO X0 hx hZ hown (hw _ (List.mem_of_getElem? (i := 15) rfl)) (hw _ (List.mem_of_getElem? (i := 16) rfl)) (hw _ (List.mem_of_getElem? (i := 17) rfl)) e0 (g := (mkF m 1 #[.val (.ref a1), .val (.ref a2), .val (.int (0 : Int32)), .val (.int (1 : Int32)), .val .null, .unset] [(.ref a1)])) rfl (by rw [hml]; rfl) rfl (hb hby d3_1) (by decide) (W := 0) (by show 2 * 0 + _ ≤ _; exact Nat.le_of_eq rfl) (by decide)
  refine own_go st1 ?_
  show WP p e below _ (T1.setTop (mkF m 4 #[.val (.ref a1), .val (.ref a2), .val (.int (0 : Int32)), .val (.int (1 : Int32)), .val .null, .unset] []))
  refine own_go (fun t_ k => XS.iloadN X1.here hx rfl (hb hby d3_4) rfl k) ?_
  show WP p e below _ (T1.setTop (mkF m 5 #[.val (.ref a1), .val (.ref a2), .val (.int (0 : Int32)), .val (.int (1 : Int32)), .val .null, .unset] [(.int (1 : Int32))]))
  have hc5_2 : ¬ ((1 : Int32) = (0 : Int32)) := by decide
  refine own_go (fun t_ k => XS.ifYes X1.here hx rfl (pc0 := 5) (pc' := 27) rfl (hb hby d3_5) rfl ((if0 _ _).trans (feq hc5_2).2) (by decide) (by decide) k) ?_
  show WP p e below _ (T1.setTop (mkF m 27 #[.val (.ref a1), .val (.ref a2), .val (.int (0 : Int32)), .val (.int (1 : Int32)), .val .null, .unset] []))
  obtain ⟨T3, X3, e3, st3⟩ := getS2 X1 hx hZ hown (host := "") (Or.inl (hw _ (List.mem_of_getElem? (i := 72) rfl))) Via.refl e1 Pf4 (g := (mkF m 27 #[.val (.ref a1), .val (.ref a2), .val (.int (0 : Int32)), .val (.int (1 : Int32)), .val .null, .unset] [])) rfl (hb hby d3_27)
  refine own_go st3 ?_
  show WP p e below _ (T3.setTop (mkF m 30 #[.val (.ref a1), .val (.ref a2), .val (.int (0 : Int32)), .val (.int (1 : Int32)), .val .null, .unset] [(.int cs)]))
  have hc30_4 : ¬ (cs = (0 : Int32)) := hcs
  refine own_go (fun t_ k => XS.ifNo X3.here hx rfl (hb hby d3_30) rfl ((if0 _ _).trans (feq hc30_4).1) k) ?_
  show WP p e below _ (T3.setTop (mkF m 33 #[.val (.ref a1), .val (.ref a2), .val (.int (0 : Int32)), .val (.int (1 : Int32)), .val .null, .unset] []))
  refine own_go (fun t_ k => XS.aloadN X3.here hx rfl (hb hby d3_33) rfl rfl k) ?_
  show WP p e below _ (T3.setTop (mkF m 34 #[.val (.ref a1), .val (.ref a2), .val (.int (0 : Int32)), .val (.int (1 : Int32)), .val .null, .unset] [(.ref a2)]))
  refine own_go (fun t_ k => XS.iloadN X3.here hx rfl (hb hby d3_34) rfl k) ?_
  show WP p e below _ (T3.setTop (mkF m 35 #[.val (.ref a1), .val (.ref a2), .val (.int (0 : Int32)), .val (.int (1 : Int32)), .val .null, .unset] [(.int (0 : Int32)), (.ref a2)]))
  refine own_go (fun t_ k => XS.iloadN X3.here hx rfl (hb hby d3_35) rfl k) ?_
  show WP p e below _ (T3.setTop (mkF m 36 #[.val (.ref a1), .val (.ref a2), .val (.int (0 : Int32)), .val (.int (1 : Int32)), .val .null, .unset] [(.int (1 : Int32)), (.int (0 : Int32)), (.ref a2)]))
  obtain ⟨_, T5, Lc5, X5, hQ5, st5⟩ := own_un X3 1 1 (Jvm.LawKit.callS X3 hx (y := (⟨"java/lang/StringUTF16", "compress", "([CII)[B"⟩ : MethodName)) hown (mvT hZ (hw _ (List.mem_of_getElem? (i := 83) rfl))) (mvT hZ (hw _ (List.mem_of_getElem? (i := 84) rfl))) (mvT hZ (hw _ (List.mem_of_getElem? (i := 85) rfl))) (mvT hZ (hw _ (List.mem_of_getElem? (i := 86) rfl))) (by decide) (backOf (W := 0) (rmCb_1 l Z a0 hw [] a2 kc u0 h0 n0 (Nat.le_trans Z0 (Keep.refl h0 [a1]).1) Pf3 hu0) hZ (hw _ (List.mem_of_getElem? (i := 86) rfl)) (hw _ (List.mem_of_getElem? (i := 85) rfl)) (by decide) (by decide)) (g := (mkF m 36 #[.val (.ref a1), .val (.ref a2), .val (.int (0 : Int32)), .val (.int (1 : Int32)), .val .null, .unset] [(.int (1 : Int32)), (.int (0 : Int32)), (.ref a2)])) rfl (by rw [hml]; rfl) (argsL := [(.ref a2), (.int (0 : Int32)), (.int (1 : Int32))]) (rest := []) (lenOf pd_1 rfl) rfl (by show 2 * 0 + _ ≤ _; exact Nat.le_of_eq rfl) (hb hby d3_36) (fun _ _ => ⟨rfl, e3, (by decide : 0 + 1 ≤ _), (by decide : 0 + 1 ≤ _)⟩))
  dsimp only [Pt.U] at st5
  have er5 : T5.heap = T5.heap := rfl
  obtain ⟨b5_0, kb5_0, rfl, N5q, K5c, sz5_0, F5c0⟩ := hQ5
  have N5 := Fr.app N0 N5q
  replace X5 : Stand p l e ({ frames := 2, cells := 1, slots := 1, locals := 35 } : Room) s m _ below meth c T5 _ 1 1 := X5
  refine own_go st5 ?_
  have Sk5_0 := own_sta_k Pf4 K5c (own_pl0)
  have g_b5_0 : n0 ≤ b5_0 := Nat.le_trans (Nat.le_trans Z0 (Keep.refl h0 [a1]).1) sz5_0
  have szz_b5_0 : h0.size ≤ b5_0 := Nat.le_trans (Keep.refl h0 [a1]).1 sz5_0
  have ne_a1_b5_0 : a1 ≠ b5_0 := Nat.ne_of_lt (Nat.lt_of_lt_of_le Pf0.lt sz5_0)
  have ne_a2_b5_0 : a2 ≠ b5_0 := Nat.ne_of_lt (Nat.lt_of_lt_of_le Pf3.lt sz5_0)
  have K5 : Keep h0 T5.heap [a1] := (Keep.refl h0 [a1]).trans K5c all0
  show WP p e below _ (T5.setTop (mkF m 39 #[.val (.ref a1), .val (.ref a2), .val (.int (0 : Int32)), .val (.int (1 : Int32)), .val .null, .unset] [(.ref b5_0)]))
  refine own_go (fun t_ k => XS.astore X5.here hx rfl (hb hby d3_39) rfl rfl (l' := #[.val (.ref a1), .val (.ref a2), .val (.int (0 : Int32)), .val (.int (1 : Int32)), .val .null, .val (.ref b5_0)]) rfl k) ?_
  show WP p e below _ (T5.setTop (mkF m 41 #[.val (.ref a1), .val (.ref a2), .val (.int (0 : Int32)), .val (.int (1 : Int32)), .val .null, .val (.ref b5_0)] []))
  refine own_go (fun t_ k => XS.aloadN X5.here hx rfl (hb hby d3_41) rfl rfl k) ?_
  show WP p e below _ (T5.setTop (mkF m 42 #[.val (.ref a1), .val (.ref a2), .val (.int (0 : Int32)), .val (.int (1 : Int32)), .val .null, .val (.ref b5_0)] [(.ref a1)]))
  refine own_go (fun t_ k => XS.aload X5.here hx rfl (hb hby d3_42) rfl rfl k) ?_
  show WP p e below _ (T5.setTop (mkF m 44 #[.val (.ref a1), .val (.ref a2), .val (.int (0 : Int32)), .val (.int (1 : Int32)), .val .null, .val (.ref b5_0)] [(.ref b5_0), (.ref a1)]))
  refine own_go (fun t_ k => XS.iloadN X5.here hx rfl (hb hby d3_44) rfl k) ?_
  show WP p e below _ (T5.setTop (mkF m 45 #[.val (.ref a1), .val (.ref a2), .val (.int (0 : Int32)), .val (.int (1 : Int32)), .val .null, .val (.ref b5_0)] [(.int (1 : Int32)), (.ref b5_0), (.ref a1)]))
  obtain ⟨_, T6, Lc6, X6, hQ6, st6⟩ := own_un X5 0 0 (Jvm.LawKit.callS X5 hx (y := (⟨"java/lang/StringUTF16", "coderFromArrayLen", "([BI)B"⟩ : MethodName)) hown (mvT hZ (hw _ (List.mem_of_getElem? (i := 90) rfl))) (mvT hZ (hw _ (List.mem_of_getElem? (i := 91) rfl))) (mvT hZ (hw _ (List.mem_of_getElem? (i := 85) rfl))) (mvT hZ (hw _ (List.mem_of_getElem? (i := 92) rfl))) (by decide) (backOf (W := 1) (rmCg_1 l Z a0 hw [] b5_0 kb5_0 ((u0.toInt8.toInt32).toInt8.toInt32) T5.heap n0 F5c0 ) hZ (hw _ (List.mem_of_getElem? (i := 92) rfl)) (hw _ (List.mem_of_getElem? (i := 85) rfl)) (by decide) (by decide)) (g := (mkF m 45 #[.val (.ref a1), .val (.ref a2), .val (.int (0 : Int32)), .val (.int (1 : Int32)), .val .null, .val (.ref b5_0)] [(.int (1 : Int32)), (.ref b5_0), (.ref a1)])) rfl (by rw [hml]; rfl) (argsL := [(.ref b5_0), (.int (1 : Int32))]) (rest := [(.ref a1)]) (lenOf pd_2 rfl) rfl (by show 2 * 0 + _ ≤ _; exact Nat.le_of_eq rfl) (hb hby d3_45) (fun _ _ => ⟨rfl, er5, (by decide : 1 + 0 ≤ _), (by decide : 1 + 0 ≤ _)⟩))
  dsimp only [Pt.U] at st6
  have er6 : T6.heap = T6.heap := rfl
  obtain ⟨rfl, N6q, e6⟩ := hQ6
  have N6 := Fr.app N5 N6q
  replace X6 : Stand p l e ({ frames := 2, cells := 1, slots := 1, locals := 35 } : Room) s m _ below meth c T6 _ 1 1 := X6
  refine own_go st6 ?_
  show WP p e below _ (T6.setTop (mkF m 48 #[.val (.ref a1), .val (.ref a2), .val (.int (0 : Int32)), .val (.int (1 : Int32)), .val .null, .val (.ref b5_0)] [(.int (0 : Int32)), (.ref a1)]))
  obtain ⟨T7, h7, X7, e7, W7, st7⟩ := putFN X6 hx hZ hown (hw _ (List.mem_of_getElem? (i := 25) rfl)) Via.refl e6 (Pf2.keep K5c nin0) (Pf0.keep K5c) (Or.inr ⟨(hw _ (List.mem_of_getElem? (i := 21) rfl)), rfl, hnm⟩) (hw _ (List.mem_of_getElem? (i := 5) rfl)) (ty := .byte) (v' := (.int (0 : Int32))) (by decide) rfl (by decide) (g := (mkF m 48 #[.val (.ref a1), .val (.ref a2), .val (.int (0 : Int32)), .val (.int (1 : Int32)), .val .null, .val (.ref b5_0)] [(.int (0 : Int32)), (.ref a1)])) rfl rfl (hb hby d3_48)
  refine own_go st7 ?_
  have Fw7 := (Pf2.keep K5c nin0).same W7
  have N7 := Fr.snoc X7 N6 ge_a1
  have K7 : Keep h0 h7 [a1] := K5.wr W7 (Or.inl (List.mem_of_getElem? (i := 0) rfl))
  show WP p e below _ (T7.setTop (mkF m 51 #[.val (.ref a1), .val (.ref a2), .val (.int (0 : Int32)), .val (.int (1 : Int32)), .val .null, .val (.ref b5_0)] []))
  refine own_go (fun t_ k => XS.aloadN X7.here hx rfl (hb hby d3_51) rfl rfl k) ?_
  show WP p e below _ (T7.setTop (mkF m 52 #[.val (.ref a1), .val (.ref a2), .val (.int (0 : Int32)), .val (.int (1 : Int32)), .val .null, .val (.ref b5_0)] [(.ref a1)]))
  refine own_go (fun t_ k => XS.aload X7.here hx rfl (hb hby d3_52) rfl rfl k) ?_
  show WP p e below _ (T7.setTop (mkF m 54 #[.val (.ref a1), .val (.ref a2), .val (.int (0 : Int32)), .val (.int (1 : Int32)), .val .null, .val (.ref b5_0)] [(.ref b5_0), (.ref a1)]))
  obtain ⟨T8, h8, X8, e8, W8, st8⟩ := putF X7 hx hZ hown (host := "") (Or.inl (hw _ (List.mem_of_getElem? (i := 24) rfl))) Via.refl e7 ((Pf1.keep K5c nin0).other W7 (Or.inr (slot_ne (Or.inr (hw _ (List.mem_of_getElem? (i := 20) rfl))) (Or.inr (hw _ (List.mem_of_getElem? (i := 21) rfl))) (by decide) (t := (.array .byte)) (t' := .byte) (by decide) (by decide)))) ((Pf0.keep K5c).wr W7) (Or.inr ⟨(hw _ (List.mem_of_getElem? (i := 20) rfl)), rfl, hnm⟩) (hw _ (List.mem_of_getElem? (i := 5) rfl)) (ty := (.array .byte)) (by decide) rfl rfl (g := (mkF m 54 #[.val (.ref a1), .val (.ref a2), .val (.int (0 : Int32)), .val (.int (1 : Int32)), .val .null, .val (.ref b5_0)] [(.ref b5_0), (.ref a1)])) rfl rfl (hb hby d3_54)
  refine own_go st8 ?_
  have Fw8 := ((Pf1.keep K5c nin0).other W7 (Or.inr (slot_ne (Or.inr (hw _ (List.mem_of_getElem? (i := 20) rfl))) (Or.inr (hw _ (List.mem_of_getElem? (i := 21) rfl))) (by decide) (t := (.array .byte)) (t' := .byte) (by decide) (by decide)))).same W8
  have N8 := Fr.snoc X8 N7 ge_a1
  have K8 : Keep h0 h8 [a1] := K7.wr W8 (Or.inl (List.mem_of_getElem? (i := 0) rfl))
  show WP p e below _ (T8.setTop (mkF m 57 #[.val (.ref a1), .val (.ref a2), .val (.int (0 : Int32)), .val (.int (1 : Int32)), .val .null, .val (.ref b5_0)] []))
  exact own_ret0 X8 hx Bd.notSynchronized Bd.returns (hb hby d3_57) (by rw [e8]; exact ⟨b5_0, kb5_0, rfl, N8, K8, szz_b5_0, (((Pf0.keep K5c).wr W7).wr W8), Fw8, (Fw7.other W8 (Or.inr (slot_ne (Or.inr (hw _ (List.mem_of_getElem? (i := 21) rfl))) (Or.inr (hw _ (List.mem_of_getElem? (i := 20) rfl))) (by decide) (t := .byte) (t' := (.array .byte)) (by decide) (by decide)))), ((F5c0.other W7 (Ne.symm ne_a1_b5_0)).other W8 (Ne.symm ne_a1_b5_0))⟩) (by decide) (by decide)
def Q_rmS3_2 (Z : State) (a1 : Addr) (a2 : Addr) (kc : ClassId) (cs : Int32) (u0 : Int32) (u1 : Int32) (h0 : Heap) (n0 : Nat) (v : Option Value) (h : Heap) (L : List Loc) : Prop := ∃ (b5_0 : Addr), ∃ (kb5_0 : ClassId), v = none ∧ Fr n0 L ∧ Keep h0 h [a1] ∧ h0.size ≤ b5_0 ∧ Exa Z h a1 "java/lang/String" ∧ Fld Z h a1 "java/lang/String" "value" "[B" (.ref b5_0) ∧ Fld Z h a1 "java/lang/String" "coder" "B" (.int (0 : Int32)) ∧ Arv Z h b5_0 kb5_0 .byte (2 : Int32) [(.int ((u0.toInt8.toInt32).toInt8.toInt32)), (.int ((u1.toInt8.toInt32).toInt8.toInt32))] (.int (0 : Int32))
theorem ef_rmS3_2 (m : MethodId) (x0 : Addr) (x1 : Addr) (x2 : Int32) (x3 : Int32) : entryFrame m #[(.ref x0), (.ref x1), (.int x2), (.int x3), .null] 6 = mkF m 0 #[.val (.ref x0), .val (.ref x1), .val (.int x2), .val (.int x3), .val .null, .unset] [] := by first | (simp [entryFrame, mkF, argsToLocals, Value.category]; done) | rfl
set_option maxRecDepth 65536 in
set_option maxHeartbeats 40000000 in
theorem rmS3_2 (l : Launch) (Z : State) (a0 : Array Value) (hw : ∀ d ∈ tables_1, d.before a0 Z = true) (ws : List Jvm.Cond) (a1 : Addr) (a2 : Addr) (kc : ClassId) (cs : Int32) (u0 : Int32) (u1 : Int32) (h0 : Heap) (n0 : Nat) (Z0 : n0 ≤ h0.size) (ge_a1 : n0 ≤ a1) (Pf0 : Exa Z h0 a1 "java/lang/String") (Pf1 : Fld Z h0 a1 "java/lang/String" "value" "[B" .null) (Pf2 : Fld Z h0 a1 "java/lang/String" "coder" "B" (.int (0 : Int32))) (Pf3 : Arv Z h0 a2 kc .char (2 : Int32) [(.int u0), (.int u1)] (.int (0 : Int32))) (Pf4 : Sta Z h0 "java/lang/String" "COMPACT_STRINGS" "Z" (.int cs)) (ne_a1_a2 : a1 ≠ a2) (hcs : ¬ cs = (0 : Int32)) (hu0 : ¬ (255 : Int32) < u0) (hu1 : ¬ (255 : Int32) < u1) :
    MetFree l (⟨"java/lang/String", "<init>", "([CIILjava/lang/Void;)V"⟩ : MethodName) (head1 (Jvm.Cond.code (⟨"java/lang/String", "<init>", "([CIILjava/lang/Void;)V"⟩ : MethodName) jdk_42_method_149_code 6 none :: ws) ({ frames := 2, cells := 1, slots := 2, locals := 35 } : Room)) (fun a U => a = #[(.ref a1), (.ref a2), (.int (0 : Int32)), (.int (2 : Int32)), .null] ∧ Z.Warmed39 U.vm ∧ U.heap = h0) (fun _ _ _ _ _ => True) (fun _ U o U' => ∃ v L, o = .returned v ∧ (Q_rmS3_2 Z a1 a2 kc cs u0 u1 h0 n0) v U'.heap L ∧ FrameEnd U o U' L ({ frames := 2, cells := 1, slots := 2, locals := 35 } : Room).cells ({ frames := 2, cells := 1, slots := 2, locals := 35 } : Room).slots) := by
  refine MetFree.of_bodySF (plainFor_of_name pn_1) hisR ?_
  intro p e s m args below meth c s₁ Bd hml0 hP hK
  obtain ⟨rfl, hZ, hh⟩ := hP
  have hx := Bd.exec
  have hby := Bd.bytes
  have hml : c.maxLocals = 6 := hml0
  have hown : s.vm.findClass "java/lang/String" = some m.cls := findClass_of_methodNamed Bd.named
  have hnm := (name_of_methodNamed Bd.named Bd.method).1
  have X0 : Stand p l e ({ frames := 2, cells := 1, slots := 2, locals := 35 } : Room) s m #[(.ref a1), (.ref a2), (.int (0 : Int32)), (.int (2 : Int32)), .null] below meth c s₁ [] 0 0 := Stand.of_body Bd
  have e0 : s₁.heap = h0 := by rw [← hh, Bd.state]; rfl
  have N0 := Fr.nil n0
  show WP p e below (GG (Q_rmS3_2 Z a1 a2 kc cs u0 u1 h0 n0) s ({ frames := 2, cells := 1, slots := 2, locals := 35 } : Room).cells ({ frames := 2, cells := 1, slots := 2, locals := 35 } : Room).slots) (s₁.setTop (entryFrame m #[(.ref a1), (.ref a2), (.int (0 : Int32)), (.int (2 : Int32)), .null] 6))
  rw [ef_rmS3_2 m a1 a2 (0 : Int32) (2 : Int32)]
  show WP p e below _ (s₁.setTop (mkF m 0 #[.val (.ref a1), .val (.ref a2), .val (.int (0 : Int32)), .val (.int (2 : Int32)), .val .null, .unset] []))
  refine own_go (fun t_ k => XS.aloadN X0.here hx rfl (hb hby d3_0) rfl rfl k) ?_
  show WP p e below _ (s₁.setTop (mkF m 1 #[.val (.ref a1), .val (.ref a2), .val (.int (0 : Int32)), .val (.int (2 : Int32)), .val .null, .unset] [(.ref a1)]))
  obtain ⟨T1, X1, e1, st1⟩ := initO X0 hx hZ hown (hw _ (List.mem_of_getElem? (i := 15) rfl)) (hw _ (List.mem_of_getElem? (i := 16) rfl)) (hw _ (List.mem_of_getElem? (i := 17) rfl)) e0 (g := (mkF m 1 #[.val (.ref a1), .val (.ref a2), .val (.int (0 : Int32)), .val (.int (2 : Int32)), .val .null, .unset] [(.ref a1)])) rfl (by rw [hml]; rfl) rfl (hb hby d3_1) (by decide) (W := 0) (by show 2 * 0 + _ ≤ _; exact Nat.le_of_eq rfl) (by decide)
  refine own_go st1 ?_
  show WP p e below _ (T1.setTop (mkF m 4 #[.val (.ref a1), .val (.ref a2), .val (.int (0 : Int32)), .val (.int (2 : Int32)), .val .null, .unset] []))
  refine own_go (fun t_ k => XS.iloadN X1.here hx rfl (hb hby d3_4) rfl k) ?_
  show WP p e below _ (T1.setTop (mkF m 5 #[.val (.ref a1), .val (.ref a2), .val (.int (0 : Int32)), .val (.int (2 : Int32)), .val .null, .unset] [(.int (2 : Int32))]))
  have hc5_2 : ¬ ((2 : Int32) = (0 : Int32)) := by decide
  refine own_go (fun t_ k => XS.ifYes X1.here hx rfl (pc0 := 5) (pc' := 27) rfl (hb hby d3_5) rfl ((if0 _ _).trans (feq hc5_2).2) (by decide) (by decide) k) ?_
  show WP p e below _ (T1.setTop (mkF m 27 #[.val (.ref a1), .val (.ref a2), .val (.int (0 : Int32)), .val (.int (2 : Int32)), .val .null, .unset] []))
  obtain ⟨T3, X3, e3, st3⟩ := getS2 X1 hx hZ hown (host := "") (Or.inl (hw _ (List.mem_of_getElem? (i := 72) rfl))) Via.refl e1 Pf4 (g := (mkF m 27 #[.val (.ref a1), .val (.ref a2), .val (.int (0 : Int32)), .val (.int (2 : Int32)), .val .null, .unset] [])) rfl (hb hby d3_27)
  refine own_go st3 ?_
  show WP p e below _ (T3.setTop (mkF m 30 #[.val (.ref a1), .val (.ref a2), .val (.int (0 : Int32)), .val (.int (2 : Int32)), .val .null, .unset] [(.int cs)]))
  have hc30_4 : ¬ (cs = (0 : Int32)) := hcs
  refine own_go (fun t_ k => XS.ifNo X3.here hx rfl (hb hby d3_30) rfl ((if0 _ _).trans (feq hc30_4).1) k) ?_
  show WP p e below _ (T3.setTop (mkF m 33 #[.val (.ref a1), .val (.ref a2), .val (.int (0 : Int32)), .val (.int (2 : Int32)), .val .null, .unset] []))
  refine own_go (fun t_ k => XS.aloadN X3.here hx rfl (hb hby d3_33) rfl rfl k) ?_
  show WP p e below _ (T3.setTop (mkF m 34 #[.val (.ref a1), .val (.ref a2), .val (.int (0 : Int32)), .val (.int (2 : Int32)), .val .null, .unset] [(.ref a2)]))
  refine own_go (fun t_ k => XS.iloadN X3.here hx rfl (hb hby d3_34) rfl k) ?_
  show WP p e below _ (T3.setTop (mkF m 35 #[.val (.ref a1), .val (.ref a2), .val (.int (0 : Int32)), .val (.int (2 : Int32)), .val .null, .unset] [(.int (0 : Int32)), (.ref a2)]))
  refine own_go (fun t_ k => XS.iloadN X3.here hx rfl (hb hby d3_35) rfl k) ?_
  show WP p e below _ (T3.setTop (mkF m 36 #[.val (.ref a1), .val (.ref a2), .val (.int (0 : Int32)), .val (.int (2 : Int32)), .val .null, .unset] [(.int (2 : Int32)), (.int (0 : Int32)), (.ref a2)]))
  obtain ⟨_, T5, Lc5, X5, hQ5, st5⟩ := own_un X3 1 2 (Jvm.LawKit.callS X3 hx (y := (⟨"java/lang/StringUTF16", "compress", "([CII)[B"⟩ : MethodName)) hown (mvT hZ (hw _ (List.mem_of_getElem? (i := 83) rfl))) (mvT hZ (hw _ (List.mem_of_getElem? (i := 84) rfl))) (mvT hZ (hw _ (List.mem_of_getElem? (i := 85) rfl))) (mvT hZ (hw _ (List.mem_of_getElem? (i := 86) rfl))) (by decide) (backOf (W := 0) (rmCb_2 l Z a0 hw [] a2 kc u0 u1 h0 n0 (Nat.le_trans Z0 (Keep.refl h0 [a1]).1) Pf3 hu0 hu1) hZ (hw _ (List.mem_of_getElem? (i := 86) rfl)) (hw _ (List.mem_of_getElem? (i := 85) rfl)) (by decide) (by decide)) (g := (mkF m 36 #[.val (.ref a1), .val (.ref a2), .val (.int (0 : Int32)), .val (.int (2 : Int32)), .val .null, .unset] [(.int (2 : Int32)), (.int (0 : Int32)), (.ref a2)])) rfl (by rw [hml]; rfl) (argsL := [(.ref a2), (.int (0 : Int32)), (.int (2 : Int32))]) (rest := []) (lenOf pd_1 rfl) rfl (by show 2 * 0 + _ ≤ _; exact Nat.le_of_eq rfl) (hb hby d3_36) (fun _ _ => ⟨rfl, e3, (by decide : 0 + 1 ≤ _), (by decide : 0 + 2 ≤ _)⟩))
  dsimp only [Pt.U] at st5
  have er5 : T5.heap = T5.heap := rfl
  obtain ⟨b5_0, kb5_0, rfl, N5q, K5c, sz5_0, F5c0⟩ := hQ5
  have N5 := Fr.app N0 N5q
  replace X5 : Stand p l e ({ frames := 2, cells := 1, slots := 2, locals := 35 } : Room) s m _ below meth c T5 _ 1 2 := X5
  refine own_go st5 ?_
  have Sk5_0 := own_sta_k Pf4 K5c (own_pl0)
  have g_b5_0 : n0 ≤ b5_0 := Nat.le_trans (Nat.le_trans Z0 (Keep.refl h0 [a1]).1) sz5_0
  have szz_b5_0 : h0.size ≤ b5_0 := Nat.le_trans (Keep.refl h0 [a1]).1 sz5_0
  have ne_a1_b5_0 : a1 ≠ b5_0 := Nat.ne_of_lt (Nat.lt_of_lt_of_le Pf0.lt sz5_0)
  have ne_a2_b5_0 : a2 ≠ b5_0 := Nat.ne_of_lt (Nat.lt_of_lt_of_le Pf3.lt sz5_0)
  have K5 : Keep h0 T5.heap [a1] := (Keep.refl h0 [a1]).trans K5c all0
  show WP p e below _ (T5.setTop (mkF m 39 #[.val (.ref a1), .val (.ref a2), .val (.int (0 : Int32)), .val (.int (2 : Int32)), .val .null, .unset] [(.ref b5_0)]))
  refine own_go (fun t_ k => XS.astore X5.here hx rfl (hb hby d3_39) rfl rfl (l' := #[.val (.ref a1), .val (.ref a2), .val (.int (0 : Int32)), .val (.int (2 : Int32)), .val .null, .val (.ref b5_0)]) rfl k) ?_
  show WP p e below _ (T5.setTop (mkF m 41 #[.val (.ref a1), .val (.ref a2), .val (.int (0 : Int32)), .val (.int (2 : Int32)), .val .null, .val (.ref b5_0)] []))
  refine own_go (fun t_ k => XS.aloadN X5.here hx rfl (hb hby d3_41) rfl rfl k) ?_
  show WP p e below _ (T5.setTop (mkF m 42 #[.val (.ref a1), .val (.ref a2), .val (.int (0 : Int32)), .val (.int (2 : Int32)), .val .null, .val (.ref b5_0)] [(.ref a1)]))
  refine own_go (fun t_ k => XS.aload X5.here hx rfl (hb hby d3_42) rfl rfl k) ?_
  show WP p e below _ (T5.setTop (mkF m 44 #[.val (.ref a1), .val (.ref a2), .val (.int (0 : Int32)), .val (.int (2 : Int32)), .val .null, .val (.ref b5_0)] [(.ref b5_0), (.ref a1)]))
  refine own_go (fun t_ k => XS.iloadN X5.here hx rfl (hb hby d3_44) rfl k) ?_
  show WP p e below _ (T5.setTop (mkF m 45 #[.val (.ref a1), .val (.ref a2), .val (.int (0 : Int32)), .val (.int (2 : Int32)), .val .null, .val (.ref b5_0)] [(.int (2 : Int32)), (.ref b5_0), (.ref a1)]))
  obtain ⟨_, T6, Lc6, X6, hQ6, st6⟩ := own_un X5 0 0 (Jvm.LawKit.callS X5 hx (y := (⟨"java/lang/StringUTF16", "coderFromArrayLen", "([BI)B"⟩ : MethodName)) hown (mvT hZ (hw _ (List.mem_of_getElem? (i := 90) rfl))) (mvT hZ (hw _ (List.mem_of_getElem? (i := 91) rfl))) (mvT hZ (hw _ (List.mem_of_getElem? (i := 85) rfl))) (mvT hZ (hw _ (List.mem_of_getElem? (i := 92) rfl))) (by decide) (backOf (W := 1) (rmCg_2 l Z a0 hw [] b5_0 kb5_0 ((u0.toInt8.toInt32).toInt8.toInt32) ((u1.toInt8.toInt32).toInt8.toInt32) T5.heap n0 F5c0 ) hZ (hw _ (List.mem_of_getElem? (i := 92) rfl)) (hw _ (List.mem_of_getElem? (i := 85) rfl)) (by decide) (by decide)) (g := (mkF m 45 #[.val (.ref a1), .val (.ref a2), .val (.int (0 : Int32)), .val (.int (2 : Int32)), .val .null, .val (.ref b5_0)] [(.int (2 : Int32)), (.ref b5_0), (.ref a1)])) rfl (by rw [hml]; rfl) (argsL := [(.ref b5_0), (.int (2 : Int32))]) (rest := [(.ref a1)]) (lenOf pd_2 rfl) rfl (by show 2 * 0 + _ ≤ _; exact Nat.le_of_eq rfl) (hb hby d3_45) (fun _ _ => ⟨rfl, er5, (by decide : 1 + 0 ≤ _), (by decide : 2 + 0 ≤ _)⟩))
  dsimp only [Pt.U] at st6
  have er6 : T6.heap = T6.heap := rfl
  obtain ⟨rfl, N6q, e6⟩ := hQ6
  have N6 := Fr.app N5 N6q
  replace X6 : Stand p l e ({ frames := 2, cells := 1, slots := 2, locals := 35 } : Room) s m _ below meth c T6 _ 1 2 := X6
  refine own_go st6 ?_
  show WP p e below _ (T6.setTop (mkF m 48 #[.val (.ref a1), .val (.ref a2), .val (.int (0 : Int32)), .val (.int (2 : Int32)), .val .null, .val (.ref b5_0)] [(.int (0 : Int32)), (.ref a1)]))
  obtain ⟨T7, h7, X7, e7, W7, st7⟩ := putFN X6 hx hZ hown (hw _ (List.mem_of_getElem? (i := 25) rfl)) Via.refl e6 (Pf2.keep K5c nin0) (Pf0.keep K5c) (Or.inr ⟨(hw _ (List.mem_of_getElem? (i := 21) rfl)), rfl, hnm⟩) (hw _ (List.mem_of_getElem? (i := 5) rfl)) (ty := .byte) (v' := (.int (0 : Int32))) (by decide) rfl (by decide) (g := (mkF m 48 #[.val (.ref a1), .val (.ref a2), .val (.int (0 : Int32)), .val (.int (2 : Int32)), .val .null, .val (.ref b5_0)] [(.int (0 : Int32)), (.ref a1)])) rfl rfl (hb hby d3_48)
  refine own_go st7 ?_
  have Fw7 := (Pf2.keep K5c nin0).same W7
  have N7 := Fr.snoc X7 N6 ge_a1
  have K7 : Keep h0 h7 [a1] := K5.wr W7 (Or.inl (List.mem_of_getElem? (i := 0) rfl))
  show WP p e below _ (T7.setTop (mkF m 51 #[.val (.ref a1), .val (.ref a2), .val (.int (0 : Int32)), .val (.int (2 : Int32)), .val .null, .val (.ref b5_0)] []))
  refine own_go (fun t_ k => XS.aloadN X7.here hx rfl (hb hby d3_51) rfl rfl k) ?_
  show WP p e below _ (T7.setTop (mkF m 52 #[.val (.ref a1), .val (.ref a2), .val (.int (0 : Int32)), .val (.int (2 : Int32)), .val .null, .val (.ref b5_0)] [(.ref a1)]))
  refine own_go (fun t_ k => XS.aload X7.here hx rfl (hb hby d3_52) rfl rfl k) ?_
  show WP p e below _ (T7.setTop (mkF m 54 #[.val (.ref a1), .val (.ref a2), .val (.int (0 : Int32)), .val (.int (2 : Int32)), .val .null, .val (.ref b5_0)] [(.ref b5_0), (.ref a1)]))
  obtain ⟨T8, h8, X8, e8, W8, st8⟩ := putF X7 hx hZ hown (host := "") (Or.inl (hw _ (List.mem_of_getElem? (i := 24) rfl))) Via.refl e7 ((Pf1.keep K5c nin0).other W7 (Or.inr (slot_ne (Or.inr (hw _ (List.mem_of_getElem? (i := 20) rfl))) (Or.inr (hw _ (List.mem_of_getElem? (i := 21) rfl))) (by decide) (t := (.array .byte)) (t' := .byte) (by decide) (by decide)))) ((Pf0.keep K5c).wr W7) (Or.inr ⟨(hw _ (List.mem_of_getElem? (i := 20) rfl)), rfl, hnm⟩) (hw _ (List.mem_of_getElem? (i := 5) rfl)) (ty := (.array .byte)) (by decide) rfl rfl (g := (mkF m 54 #[.val (.ref a1), .val (.ref a2), .val (.int (0 : Int32)), .val (.int (2 : Int32)), .val .null, .val (.ref b5_0)] [(.ref b5_0), (.ref a1)])) rfl rfl (hb hby d3_54)
  refine own_go st8 ?_
  have Fw8 := ((Pf1.keep K5c nin0).other W7 (Or.inr (slot_ne (Or.inr (hw _ (List.mem_of_getElem? (i := 20) rfl))) (Or.inr (hw _ (List.mem_of_getElem? (i := 21) rfl))) (by decide) (t := (.array .byte)) (t' := .byte) (by decide) (by decide)))).same W8
  have N8 := Fr.snoc X8 N7 ge_a1
  have K8 : Keep h0 h8 [a1] := K7.wr W8 (Or.inl (List.mem_of_getElem? (i := 0) rfl))
  show WP p e below _ (T8.setTop (mkF m 57 #[.val (.ref a1), .val (.ref a2), .val (.int (0 : Int32)), .val (.int (2 : Int32)), .val .null, .val (.ref b5_0)] []))
  exact own_ret0 X8 hx Bd.notSynchronized Bd.returns (hb hby d3_57) (by rw [e8]; exact ⟨b5_0, kb5_0, rfl, N8, K8, szz_b5_0, (((Pf0.keep K5c).wr W7).wr W8), Fw8, (Fw7.other W8 (Or.inr (slot_ne (Or.inr (hw _ (List.mem_of_getElem? (i := 21) rfl))) (Or.inr (hw _ (List.mem_of_getElem? (i := 20) rfl))) (by decide) (t := .byte) (t' := (.array .byte)) (by decide) (by decide)))), ((F5c0.other W7 (Ne.symm ne_a1_b5_0)).other W8 (Ne.symm ne_a1_b5_0))⟩) (by decide) (by decide)
def Q_rmS2_1 (Z : State) (a1 : Addr) (a2 : Addr) (kc : ClassId) (cs : Int32) (u0 : Int32) (h0 : Heap) (n0 : Nat) (v : Option Value) (h : Heap) (L : List Loc) : Prop := ∃ (b2_0 : Addr), ∃ (kb2_0 : ClassId), v = none ∧ Fr n0 L ∧ Keep h0 h [a1] ∧ h0.size ≤ b2_0 ∧ Exa Z h a1 "java/lang/String" ∧ Fld Z h a1 "java/lang/String" "value" "[B" (.ref b2_0) ∧ Fld Z h a1 "java/lang/String" "coder" "B" (.int (0 : Int32)) ∧ Arv Z h b2_0 kb2_0 .byte (1 : Int32) [(.int ((u0.toInt8.toInt32).toInt8.toInt32))] (.int (0 : Int32))
theorem pd_3 : parseMethodDescriptor "([CIILjava/lang/Void;)V" = some ⟨[(.array .char), .int, .int, (.object "java/lang/Void")], none⟩ := by decide +kernel
theorem d2_0 : decode jdk_42_method_3_code 0 = .ok (.aload_n 0, 1) := by decide +kernel
theorem d2_1 : decode jdk_42_method_3_code 1 = .ok (.aload_n 1, 1) := by decide +kernel
theorem d2_2 : decode jdk_42_method_3_code 2 = .ok (.iconst 0, 1) := by decide +kernel
theorem d2_3 : decode jdk_42_method_3_code 3 = .ok (.aload_n 1, 1) := by decide +kernel
theorem d2_4 : decode jdk_42_method_3_code 4 = .ok (.arraylength, 1) := by decide +kernel
theorem d2_5 : decode jdk_42_method_3_code 5 = .ok (.aconst_null, 1) := by decide +kernel
theorem d2_6 : decode jdk_42_method_3_code 6 = .ok (.invokespecial 27, 3) := by decide +kernel
theorem d2_9 : decode jdk_42_method_3_code 9 = .ok (.return_, 1) := by decide +kernel
theorem ef_rmS2_1 (m : MethodId) (x0 : Addr) (x1 : Addr) : entryFrame m #[(.ref x0), (.ref x1)] 2 = mkF m 0 #[.val (.ref x0), .val (.ref x1)] [] := by first | (simp [entryFrame, mkF, argsToLocals, Value.category]; done) | rfl
set_option maxRecDepth 65536 in
set_option maxHeartbeats 40000000 in
theorem rmS2_1 (l : Launch) (Z : State) (a0 : Array Value) (hw : ∀ d ∈ tables_1, d.before a0 Z = true) (ws : List Jvm.Cond) (a1 : Addr) (a2 : Addr) (kc : ClassId) (cs : Int32) (u0 : Int32) (h0 : Heap) (n0 : Nat) (Z0 : n0 ≤ h0.size) (ge_a1 : n0 ≤ a1) (Pf0 : Exa Z h0 a1 "java/lang/String") (Pf1 : Fld Z h0 a1 "java/lang/String" "value" "[B" .null) (Pf2 : Fld Z h0 a1 "java/lang/String" "coder" "B" (.int (0 : Int32))) (Pf3 : Arv Z h0 a2 kc .char (1 : Int32) [(.int u0)] (.int (0 : Int32))) (Pf4 : Sta Z h0 "java/lang/String" "COMPACT_STRINGS" "Z" (.int cs)) (ne_a1_a2 : a1 ≠ a2) (hcs : ¬ cs = (0 : Int32)) (hu0 : ¬ (255 : Int32) < u0) :
    MetFree l (⟨"java/lang/String", "<init>", "([C)V"⟩ : MethodName) (head1 (Jvm.Cond.code (⟨"java/lang/String", "<init>", "([C)V"⟩ : MethodName) jdk_42_method_3_code 2 none :: ws) ({ frames := 3, cells := 1, slots := 1, locals := 52 } : Room)) (fun a U => a = #[(.ref a1), (.ref a2)] ∧ Z.Warmed39 U.vm ∧ U.heap = h0) (fun _ _ _ _ _ => True) (fun _ U o U' => ∃ v L, o = .returned v ∧ (Q_rmS2_1 Z a1 a2 kc cs u0 h0 n0) v U'.heap L ∧ FrameEnd U o U' L ({ frames := 3, cells := 1, slots := 1, locals := 52 } : Room).cells ({ frames := 3, cells := 1, slots := 1, locals := 52 } : Room).slots) := by
  refine MetFree.of_bodySF (plainFor_of_name pn_1) hisR ?_
  intro p e s m args below meth c s₁ Bd hml0 hP hK
  obtain ⟨rfl, hZ, hh⟩ := hP
  have hx := Bd.exec
  have hby := Bd.bytes
  have hml : c.maxLocals = 2 := hml0
  have hown : s.vm.findClass "java/lang/String" = some m.cls := findClass_of_methodNamed Bd.named
  have hnm := (name_of_methodNamed Bd.named Bd.method).1
  have X0 : Stand p l e ({ frames := 3, cells := 1, slots := 1, locals := 52 } : Room) s m #[(.ref a1), (.ref a2)] below meth c s₁ [] 0 0 := Stand.of_body Bd
  have e0 : s₁.heap = h0 := by rw [← hh, Bd.state]; rfl
  have N0 := Fr.nil n0
  show WP p e below (GG (Q_rmS2_1 Z a1 a2 kc cs u0 h0 n0) s ({ frames := 3, cells := 1, slots := 1, locals := 52 } : Room).cells ({ frames := 3, cells := 1, slots := 1, locals := 52 } : Room).slots) (s₁.setTop (entryFrame m #[(.ref a1), (.ref a2)] 2))
  rw [ef_rmS2_1 m a1 a2]
  show WP p e below _ (s₁.setTop (mkF m 0 #[.val (.ref a1), .val (.ref a2)] []))
  refine own_go (fun t_ k => XS.aloadN X0.here hx rfl (hb hby d2_0) rfl rfl k) ?_
  show WP p e below _ (s₁.setTop (mkF m 1 #[.val (.ref a1), .val (.ref a2)] [(.ref a1)]))
  refine own_go (fun t_ k => XS.aloadN X0.here hx rfl (hb hby d2_1) rfl rfl k) ?_
  show WP p e below _ (s₁.setTop (mkF m 2 #[.val (.ref a1), .val (.ref a2)] [(.ref a2), (.ref a1)]))
  refine own_go (fun t_ k => XS.iconst X0.here hx rfl (hb hby d2_2) k) ?_
  show WP p e below _ (s₁.setTop (mkF m 3 #[.val (.ref a1), .val (.ref a2)] [(.int (0 : Int32)), (.ref a2), (.ref a1)]))
  refine own_go (fun t_ k => XS.aloadN X0.here hx rfl (hb hby d2_3) rfl rfl k) ?_
  show WP p e below _ (s₁.setTop (mkF m 4 #[.val (.ref a1), .val (.ref a2)] [(.ref a2), (.int (0 : Int32)), (.ref a2), (.ref a1)]))
  obtain ⟨cl1, Ar1, -, S1, M1, -, -⟩ := id (Pf3)
  refine own_go (fun t_ k => X0.arraylength hx (by rw [e0]; exact Ar1.1) (State.isArrayOf_alike hZ.alike Ar1.2.1) (g := (mkF m 4 #[.val (.ref a1), .val (.ref a2)] [(.ref a2), (.int (0 : Int32)), (.ref a2), (.ref a1)])) rfl rfl (hb hby d2_4) _ (by rw [len_of S1 M1]; exact k)) ?_
  show WP p e below _ (s₁.setTop (mkF m 5 #[.val (.ref a1), .val (.ref a2)] [(.int (1 : Int32)), (.int (0 : Int32)), (.ref a2), (.ref a1)]))
  refine own_go (fun t_ k => XS.aconstNull X0.here hx rfl (hb hby d2_5) k) ?_
  show WP p e below _ (s₁.setTop (mkF m 6 #[.val (.ref a1), .val (.ref a2)] [.null, (.int (1 : Int32)), (.int (0 : Int32)), (.ref a2), (.ref a1)]))
  obtain ⟨_, T2, Lc2, X2, hQ2, st2⟩ := own_un X0 1 1 (X0.specialBack hx (y := (⟨"java/lang/String", "<init>", "([CIILjava/lang/Void;)V"⟩ : MethodName)) rfl hown (mvT hZ (hw _ (List.mem_of_getElem? (i := 11) rfl))) (mvT hZ (hw _ (List.mem_of_getElem? (i := 12) rfl))) (mvT hZ (hw _ (List.mem_of_getElem? (i := 14) rfl))) (by decide) (backOf (W := 0) (rmS3_1 l Z a0 hw [] a1 a2 kc cs u0 h0 n0 (Nat.le_trans Z0 (Keep.refl h0 [a1]).1) ge_a1 Pf0 Pf1 Pf2 Pf3 Pf4 ne_a1_a2 hcs hu0) hZ (hw _ (List.mem_of_getElem? (i := 14) rfl)) (hw _ (List.mem_of_getElem? (i := 6) rfl)) (by decide) (by decide)) (g := (mkF m 6 #[.val (.ref a1), .val (.ref a2)] [.null, (.int (1 : Int32)), (.int (0 : Int32)), (.ref a2), (.ref a1)])) rfl (by rw [hml]; rfl) (Steps.refl _) (a := a1) (argsL := [(.ref a2), (.int (0 : Int32)), (.int (1 : Int32)), .null]) (rest := []) (lenOf pd_3 rfl) rfl (by show 2 * 0 + _ ≤ _; exact Nat.le_of_eq rfl) (hb hby d2_6) (fun _ _ => ⟨rfl, e0, (by decide : 0 + 1 ≤ _), (by decide : 0 + 1 ≤ _)⟩))
  dsimp only [Pt.U] at st2
  have er2 : T2.heap = T2.heap := rfl
  obtain ⟨b2_0, kb2_0, rfl, N2q, K2c, sz2_0, F2c0, F2c1, F2c2, F2c3⟩ := hQ2
  have N2 := Fr.app N0 N2q
  replace X2 : Stand p l e ({ frames := 3, cells := 1, slots := 1, locals := 52 } : Room) s m _ below meth c T2 _ 1 1 := X2
  refine own_go (fun t_ k => st2.trans k) ?_
  have Sk2_0 := own_sta_k Pf4 K2c (own_plS (own_plE Pf0) (own_pl0))
  have g_b2_0 : n0 ≤ b2_0 := Nat.le_trans (Nat.le_trans Z0 (Keep.refl h0 [a1]).1) sz2_0
  have szz_b2_0 : h0.size ≤ b2_0 := Nat.le_trans (Keep.refl h0 [a1]).1 sz2_0
  have ne_a1_b2_0 : a1 ≠ b2_0 := Nat.ne_of_lt (Nat.lt_of_lt_of_le Pf0.lt sz2_0)
  have ne_a2_b2_0 : a2 ≠ b2_0 := Nat.ne_of_lt (Nat.lt_of_lt_of_le Pf3.lt sz2_0)
  have K2 : Keep h0 T2.heap [a1] := (Keep.refl h0 [a1]).trans K2c (allS (Or.inl (List.mem_of_getElem? (i := 0) rfl)) all0)
  show WP p e below _ (T2.setTop (mkF m 9 #[.val (.ref a1), .val (.ref a2)] []))
  exact own_ret0 X2 hx Bd.notSynchronized Bd.returns (hb hby d2_9) (by rw [er2]; exact ⟨b2_0, kb2_0, rfl, N2, K2, szz_b2_0, F2c0, F2c1, F2c2, F2c3⟩) (by decide) (by decide)
def Q_rmS2_2 (Z : State) (a1 : Addr) (a2 : Addr) (kc : ClassId) (cs : Int32) (u0 : Int32) (u1 : Int32) (h0 : Heap) (n0 : Nat) (v : Option Value) (h : Heap) (L : List Loc) : Prop := ∃ (b2_0 : Addr), ∃ (kb2_0 : ClassId), v = none ∧ Fr n0 L ∧ Keep h0 h [a1] ∧ h0.size ≤ b2_0 ∧ Exa Z h a1 "java/lang/String" ∧ Fld Z h a1 "java/lang/String" "value" "[B" (.ref b2_0) ∧ Fld Z h a1 "java/lang/String" "coder" "B" (.int (0 : Int32)) ∧ Arv Z h b2_0 kb2_0 .byte (2 : Int32) [(.int ((u0.toInt8.toInt32).toInt8.toInt32)), (.int ((u1.toInt8.toInt32).toInt8.toInt32))] (.int (0 : Int32))
theorem ef_rmS2_2 (m : MethodId) (x0 : Addr) (x1 : Addr) : entryFrame m #[(.ref x0), (.ref x1)] 2 = mkF m 0 #[.val (.ref x0), .val (.ref x1)] [] := by first | (simp [entryFrame, mkF, argsToLocals, Value.category]; done) | rfl
set_option maxRecDepth 65536 in
set_option maxHeartbeats 40000000 in
theorem rmS2_2 (l : Launch) (Z : State) (a0 : Array Value) (hw : ∀ d ∈ tables_1, d.before a0 Z = true) (ws : List Jvm.Cond) (a1 : Addr) (a2 : Addr) (kc : ClassId) (cs : Int32) (u0 : Int32) (u1 : Int32) (h0 : Heap) (n0 : Nat) (Z0 : n0 ≤ h0.size) (ge_a1 : n0 ≤ a1) (Pf0 : Exa Z h0 a1 "java/lang/String") (Pf1 : Fld Z h0 a1 "java/lang/String" "value" "[B" .null) (Pf2 : Fld Z h0 a1 "java/lang/String" "coder" "B" (.int (0 : Int32))) (Pf3 : Arv Z h0 a2 kc .char (2 : Int32) [(.int u0), (.int u1)] (.int (0 : Int32))) (Pf4 : Sta Z h0 "java/lang/String" "COMPACT_STRINGS" "Z" (.int cs)) (ne_a1_a2 : a1 ≠ a2) (hcs : ¬ cs = (0 : Int32)) (hu0 : ¬ (255 : Int32) < u0) (hu1 : ¬ (255 : Int32) < u1) :
    MetFree l (⟨"java/lang/String", "<init>", "([C)V"⟩ : MethodName) (head1 (Jvm.Cond.code (⟨"java/lang/String", "<init>", "([C)V"⟩ : MethodName) jdk_42_method_3_code 2 none :: ws) ({ frames := 3, cells := 1, slots := 2, locals := 52 } : Room)) (fun a U => a = #[(.ref a1), (.ref a2)] ∧ Z.Warmed39 U.vm ∧ U.heap = h0) (fun _ _ _ _ _ => True) (fun _ U o U' => ∃ v L, o = .returned v ∧ (Q_rmS2_2 Z a1 a2 kc cs u0 u1 h0 n0) v U'.heap L ∧ FrameEnd U o U' L ({ frames := 3, cells := 1, slots := 2, locals := 52 } : Room).cells ({ frames := 3, cells := 1, slots := 2, locals := 52 } : Room).slots) := by
  refine MetFree.of_bodySF (plainFor_of_name pn_1) hisR ?_
  intro p e s m args below meth c s₁ Bd hml0 hP hK
  obtain ⟨rfl, hZ, hh⟩ := hP
  have hx := Bd.exec
  have hby := Bd.bytes
  have hml : c.maxLocals = 2 := hml0
  have hown : s.vm.findClass "java/lang/String" = some m.cls := findClass_of_methodNamed Bd.named
  have hnm := (name_of_methodNamed Bd.named Bd.method).1
  have X0 : Stand p l e ({ frames := 3, cells := 1, slots := 2, locals := 52 } : Room) s m #[(.ref a1), (.ref a2)] below meth c s₁ [] 0 0 := Stand.of_body Bd
  have e0 : s₁.heap = h0 := by rw [← hh, Bd.state]; rfl
  have N0 := Fr.nil n0
  show WP p e below (GG (Q_rmS2_2 Z a1 a2 kc cs u0 u1 h0 n0) s ({ frames := 3, cells := 1, slots := 2, locals := 52 } : Room).cells ({ frames := 3, cells := 1, slots := 2, locals := 52 } : Room).slots) (s₁.setTop (entryFrame m #[(.ref a1), (.ref a2)] 2))
  rw [ef_rmS2_2 m a1 a2]
  show WP p e below _ (s₁.setTop (mkF m 0 #[.val (.ref a1), .val (.ref a2)] []))
  refine own_go (fun t_ k => XS.aloadN X0.here hx rfl (hb hby d2_0) rfl rfl k) ?_
  show WP p e below _ (s₁.setTop (mkF m 1 #[.val (.ref a1), .val (.ref a2)] [(.ref a1)]))
  refine own_go (fun t_ k => XS.aloadN X0.here hx rfl (hb hby d2_1) rfl rfl k) ?_
  show WP p e below _ (s₁.setTop (mkF m 2 #[.val (.ref a1), .val (.ref a2)] [(.ref a2), (.ref a1)]))
  refine own_go (fun t_ k => XS.iconst X0.here hx rfl (hb hby d2_2) k) ?_
  show WP p e below _ (s₁.setTop (mkF m 3 #[.val (.ref a1), .val (.ref a2)] [(.int (0 : Int32)), (.ref a2), (.ref a1)]))
  refine own_go (fun t_ k => XS.aloadN X0.here hx rfl (hb hby d2_3) rfl rfl k) ?_
  show WP p e below _ (s₁.setTop (mkF m 4 #[.val (.ref a1), .val (.ref a2)] [(.ref a2), (.int (0 : Int32)), (.ref a2), (.ref a1)]))
  obtain ⟨cl1, Ar1, -, S1, M1, -, -⟩ := id (Pf3)
  refine own_go (fun t_ k => X0.arraylength hx (by rw [e0]; exact Ar1.1) (State.isArrayOf_alike hZ.alike Ar1.2.1) (g := (mkF m 4 #[.val (.ref a1), .val (.ref a2)] [(.ref a2), (.int (0 : Int32)), (.ref a2), (.ref a1)])) rfl rfl (hb hby d2_4) _ (by rw [len_of S1 M1]; exact k)) ?_
  show WP p e below _ (s₁.setTop (mkF m 5 #[.val (.ref a1), .val (.ref a2)] [(.int (2 : Int32)), (.int (0 : Int32)), (.ref a2), (.ref a1)]))
  refine own_go (fun t_ k => XS.aconstNull X0.here hx rfl (hb hby d2_5) k) ?_
  show WP p e below _ (s₁.setTop (mkF m 6 #[.val (.ref a1), .val (.ref a2)] [.null, (.int (2 : Int32)), (.int (0 : Int32)), (.ref a2), (.ref a1)]))
  obtain ⟨_, T2, Lc2, X2, hQ2, st2⟩ := own_un X0 1 2 (X0.specialBack hx (y := (⟨"java/lang/String", "<init>", "([CIILjava/lang/Void;)V"⟩ : MethodName)) rfl hown (mvT hZ (hw _ (List.mem_of_getElem? (i := 11) rfl))) (mvT hZ (hw _ (List.mem_of_getElem? (i := 12) rfl))) (mvT hZ (hw _ (List.mem_of_getElem? (i := 14) rfl))) (by decide) (backOf (W := 0) (rmS3_2 l Z a0 hw [] a1 a2 kc cs u0 u1 h0 n0 (Nat.le_trans Z0 (Keep.refl h0 [a1]).1) ge_a1 Pf0 Pf1 Pf2 Pf3 Pf4 ne_a1_a2 hcs hu0 hu1) hZ (hw _ (List.mem_of_getElem? (i := 14) rfl)) (hw _ (List.mem_of_getElem? (i := 6) rfl)) (by decide) (by decide)) (g := (mkF m 6 #[.val (.ref a1), .val (.ref a2)] [.null, (.int (2 : Int32)), (.int (0 : Int32)), (.ref a2), (.ref a1)])) rfl (by rw [hml]; rfl) (Steps.refl _) (a := a1) (argsL := [(.ref a2), (.int (0 : Int32)), (.int (2 : Int32)), .null]) (rest := []) (lenOf pd_3 rfl) rfl (by show 2 * 0 + _ ≤ _; exact Nat.le_of_eq rfl) (hb hby d2_6) (fun _ _ => ⟨rfl, e0, (by decide : 0 + 1 ≤ _), (by decide : 0 + 2 ≤ _)⟩))
  dsimp only [Pt.U] at st2
  have er2 : T2.heap = T2.heap := rfl
  obtain ⟨b2_0, kb2_0, rfl, N2q, K2c, sz2_0, F2c0, F2c1, F2c2, F2c3⟩ := hQ2
  have N2 := Fr.app N0 N2q
  replace X2 : Stand p l e ({ frames := 3, cells := 1, slots := 2, locals := 52 } : Room) s m _ below meth c T2 _ 1 2 := X2
  refine own_go (fun t_ k => st2.trans k) ?_
  have Sk2_0 := own_sta_k Pf4 K2c (own_plS (own_plE Pf0) (own_pl0))
  have g_b2_0 : n0 ≤ b2_0 := Nat.le_trans (Nat.le_trans Z0 (Keep.refl h0 [a1]).1) sz2_0
  have szz_b2_0 : h0.size ≤ b2_0 := Nat.le_trans (Keep.refl h0 [a1]).1 sz2_0
  have ne_a1_b2_0 : a1 ≠ b2_0 := Nat.ne_of_lt (Nat.lt_of_lt_of_le Pf0.lt sz2_0)
  have ne_a2_b2_0 : a2 ≠ b2_0 := Nat.ne_of_lt (Nat.lt_of_lt_of_le Pf3.lt sz2_0)
  have K2 : Keep h0 T2.heap [a1] := (Keep.refl h0 [a1]).trans K2c (allS (Or.inl (List.mem_of_getElem? (i := 0) rfl)) all0)
  show WP p e below _ (T2.setTop (mkF m 9 #[.val (.ref a1), .val (.ref a2)] []))
  exact own_ret0 X2 hx Bd.notSynchronized Bd.returns (hb hby d2_9) (by rw [er2]; exact ⟨b2_0, kb2_0, rfl, N2, K2, szz_b2_0, F2c0, F2c1, F2c2, F2c3⟩) (by decide) (by decide)
def Q_rmS3_0 (Z : State) (a1 : Addr) (a2 : Addr) (h0 : Heap) (n0 : Nat) (v : Option Value) (h : Heap) (L : List Loc) : Prop := ∃ (b : Addr) (k : ClassId), v = none ∧ Fr n0 L ∧ Keep h0 h [a1] ∧ Exa Z h a1 "java/lang/String" ∧ Fld Z h a1 "java/lang/String" "coder" "B" (.int (0 : Int32)) ∧ Fld Z h a1 "java/lang/String" "value" "[B" (.ref b) ∧ Arv Z h b k .byte (0 : Int32) [] (.int (0 : Int32)) ∧ a1 ≠ b
theorem d3_8 : decode jdk_42_method_149_code 8 = .ok (.aload_n 0, 1) := by decide +kernel
theorem d3_9 : decode jdk_42_method_149_code 9 = .ok (.ldc 7, 2) := by decide +kernel
theorem d3_11 : decode jdk_42_method_149_code 11 = .ok (.getfield 9, 3) := by decide +kernel
theorem d3_14 : decode jdk_42_method_149_code 14 = .ok (.putfield 9, 3) := by decide +kernel
theorem d3_17 : decode jdk_42_method_149_code 17 = .ok (.aload_n 0, 1) := by decide +kernel
theorem d3_18 : decode jdk_42_method_149_code 18 = .ok (.ldc 7, 2) := by decide +kernel
theorem d3_20 : decode jdk_42_method_149_code 20 = .ok (.getfield 15, 3) := by decide +kernel
theorem d3_23 : decode jdk_42_method_149_code 23 = .ok (.putfield 15, 3) := by decide +kernel
theorem d3_26 : decode jdk_42_method_149_code 26 = .ok (.return_, 1) := by decide +kernel
theorem ef_rmS3_0 (m : MethodId) (x0 : Addr) (x1 : Addr) (x2 : Int32) (x3 : Int32) : entryFrame m #[(.ref x0), (.ref x1), (.int x2), (.int x3), .null] 6 = mkF m 0 #[.val (.ref x0), .val (.ref x1), .val (.int x2), .val (.int x3), .val .null, .unset] [] := by first | (simp [entryFrame, mkF, argsToLocals, Value.category]; done) | rfl
set_option maxRecDepth 65536 in
set_option maxHeartbeats 40000000 in
theorem rmS3_0 (l : Launch) (Z : State) (a0 : Array Value) (hw : ∀ d ∈ tables_1, d.before a0 Z = true) (ws : List Jvm.Cond) (a1 : Addr) (a2 : Addr) (h0 : Heap) (n0 : Nat) (Z0 : n0 ≤ h0.size) (g_a : n0 ≤ a1) (E_a : Exa Z h0 a1 "java/lang/String") (F_v : Fld Z h0 a1 "java/lang/String" "value" "[B" .null) (F_c : Fld Z h0 a1 "java/lang/String" "coder" "B" (.int (0 : Int32))) :
    MetFree l (⟨"java/lang/String", "<init>", "([CIILjava/lang/Void;)V"⟩ : MethodName) (head1 (Jvm.Cond.code (⟨"java/lang/String", "<init>", "([CIILjava/lang/Void;)V"⟩ : MethodName) jdk_42_method_149_code 6 none :: ws) ({ frames := 1, cells := 2, slots := 4, locals := 12 } : Room)) (fun a U => a = #[(.ref a1), (.ref a2), (.int (0 : Int32)), (.int (0 : Int32)), .null] ∧ Z.Warmed39 U.vm ∧ U.heap = h0 ∧ CHv Z EL0 U.vm h0) (fun _ _ _ _ _ => True) (fun _ U o U' => ∃ v L, o = .returned v ∧ (Q_rmS3_0 Z a1 a2 h0 n0) v U'.heap L ∧ CHr Z EL0 U.vm U.heap U'.vm U'.heap ∧ ReturnedEndW U o U' L ({ frames := 1, cells := 2, slots := 4, locals := 12 } : Room).cells ({ frames := 1, cells := 2, slots := 4, locals := 12 } : Room).slots) := by
  refine MetFree.of_bodySF (plainFor_of_name pn_1) hisR ?_
  intro p e s m args below meth c s₁ Bd hml0 hP hK
  obtain ⟨rfl, hZ, hh, hC0⟩ := hP
  have hEL : EW Z a0 EL0 := own_EW hw
  have hS0 : s.Since s.vm s.heap.size := (State.WarmedH.refl s).since _
  have hx := Bd.exec
  have hby := Bd.bytes
  have hml : c.maxLocals = 6 := hml0
  have hown : s.vm.findClass "java/lang/String" = some m.cls := findClass_of_methodNamed Bd.named
  have hnm := (name_of_methodNamed Bd.named Bd.method).1
  have X0 : Stand p l e ({ frames := 1, cells := 2, slots := 4, locals := 12 } : Room) s m #[(.ref a1), (.ref a2), (.int (0 : Int32)), (.int (0 : Int32)), .null] below meth c s₁ [] 0 0 := Stand.of_body Bd
  have e0 : s₁.heap = h0 := by rw [← hh, Bd.state]; rfl
  have N0 := Fr.nil n0
  show WP p e below (GGH (Q_rmS3_0 Z a1 a2 h0 n0) s Z EL0 ({ frames := 1, cells := 2, slots := 4, locals := 12 } : Room).cells ({ frames := 1, cells := 2, slots := 4, locals := 12 } : Room).slots) (s₁.setTop (entryFrame m #[(.ref a1), (.ref a2), (.int (0 : Int32)), (.int (0 : Int32)), .null] 6))
  rw [ef_rmS3_0 m a1 a2 (0 : Int32) (0 : Int32)]
  show WP p e below _ (s₁.setTop (mkF m 0 #[.val (.ref a1), .val (.ref a2), .val (.int (0 : Int32)), .val (.int (0 : Int32)), .val .null, .unset] []))
  refine own_go (fun t_ k => XS.aloadN X0.here hx rfl (hb hby d3_0) rfl rfl k) ?_
  show WP p e below _ (s₁.setTop (mkF m 1 #[.val (.ref a1), .val (.ref a2), .val (.int (0 : Int32)), .val (.int (0 : Int32)), .val .null, .unset] [(.ref a1)]))
  obtain ⟨T1, X1, e1, st1⟩ := initO X0 hx hZ hown (hw _ (List.mem_of_getElem? (i := 15) rfl)) (hw _ (List.mem_of_getElem? (i := 16) rfl)) (hw _ (List.mem_of_getElem? (i := 17) rfl)) e0 (g := (mkF m 1 #[.val (.ref a1), .val (.ref a2), .val (.int (0 : Int32)), .val (.int (0 : Int32)), .val .null, .unset] [(.ref a1)])) rfl (by rw [hml]; rfl) rfl (hb hby d3_1) (by decide) (W := 0) (by show 2 * 0 + _ ≤ _; exact Nat.le_of_eq rfl) (by decide)
  refine own_go st1 ?_
  show WP p e below _ (T1.setTop (mkF m 4 #[.val (.ref a1), .val (.ref a2), .val (.int (0 : Int32)), .val (.int (0 : Int32)), .val .null, .unset] []))
  refine own_go (fun t_ k => XS.iloadN X1.here hx rfl (hb hby d3_4) rfl k) ?_
  show WP p e below _ (T1.setTop (mkF m 5 #[.val (.ref a1), .val (.ref a2), .val (.int (0 : Int32)), .val (.int (0 : Int32)), .val .null, .unset] [(.int (0 : Int32))]))
  have hc5_2 : ((0 : Int32) = (0 : Int32)) := by decide
  refine own_go (fun t_ k => XS.ifNo X1.here hx rfl (hb hby d3_5) rfl ((if0 _ _).trans (teq hc5_2).2) k) ?_
  show WP p e below _ (T1.setTop (mkF m 8 #[.val (.ref a1), .val (.ref a2), .val (.int (0 : Int32)), .val (.int (0 : Int32)), .val .null, .unset] []))
  refine own_go (fun t_ k => XS.aloadN X1.here hx rfl (hb hby d3_8) rfl rfl k) ?_
  show WP p e below _ (T1.setTop (mkF m 9 #[.val (.ref a1), .val (.ref a2), .val (.int (0 : Int32)), .val (.int (0 : Int32)), .val .null, .unset] [(.ref a1)]))
  have Sf3 : Safe Z EL0 s.vm h0 a1 := own_safeNull hZ.alike E_a F_v
  obtain ⟨sa, T3, h3, k3, sb, ks, X3, e3, E3, S3, hk3, hZ3, hown3, EA, FC, FV, VB, -, -, hC3, hL3, hSf3, st3⟩ := Jvm.RoadKit.ldcCH (s := s) (vm0 := s.vm) (Z := Z) (a0 := a0) (EL := EL0) X1 hx hZ hown (hw _ (List.mem_of_getElem? (i := 18) rfl)) (own_wS hw) e1 hS0 (Nat.le_of_eq (congrArg Array.size hh)) hEL (List.mem_singleton.mpr rfl) (hC0) (vs := []) (z := (0 : Int32)) ⟨by simp, rfl⟩ (by decide) rfl (g := (mkF m 9 #[.val (.ref a1), .val (.ref a2), .val (.int (0 : Int32)), .val (.int (0 : Int32)), .val .null, .unset] [(.ref a1)])) rfl (hb hby d3_9) (n := 0) (by decide) (by decide) (by decide) (by decide)
  refine own_go st3 ?_
  have Sg3 : Safe Z EL0 T3.vm h3 a1 := hC3.safe E_a.lt Sf3
  have hZ := hZ3
  have hown := hown3
  have ne_a1_sa : a1 ≠ sa := (hSf3 a1 Sg3).1
  have ne_a1_sb : a1 ≠ sb := (hSf3 a1 Sg3).2
  have K3 : Keep h0 h3 [a1] := (Keep.refl h0 [a1]).ext E3
  show WP p e below _ (T3.setTop (mkF m 11 #[.val (.ref a1), .val (.ref a2), .val (.int (0 : Int32)), .val (.int (0 : Int32)), .val .null, .unset] [(.ref sa), (.ref a1)]))
  obtain ⟨T4, X4, e4, st4⟩ := getF X3 hx hZ hown (host := "") (Or.inl (hw _ (List.mem_of_getElem? (i := 24) rfl))) Via.refl e3 FV (g := (mkF m 11 #[.val (.ref a1), .val (.ref a2), .val (.int (0 : Int32)), .val (.int (0 : Int32)), .val .null, .unset] [(.ref sa), (.ref a1)])) rfl rfl (hb hby d3_11)
  refine own_go st4 ?_
  show WP p e below _ (T4.setTop (mkF m 14 #[.val (.ref a1), .val (.ref a2), .val (.int (0 : Int32)), .val (.int (0 : Int32)), .val .null, .unset] [(.ref sb), (.ref a1)]))
  obtain ⟨T5, h5, X5, e5, W5, st5⟩ := putF X4 hx hZ hown (host := "") (Or.inl (hw _ (List.mem_of_getElem? (i := 24) rfl))) Via.refl e4 (F_v.ext E3) (E_a.ext E3) (Or.inr ⟨(hw _ (List.mem_of_getElem? (i := 20) rfl)), rfl, hnm⟩) (hw _ (List.mem_of_getElem? (i := 5) rfl)) (ty := (.array .byte)) (by decide) rfl rfl (g := (mkF m 14 #[.val (.ref a1), .val (.ref a2), .val (.int (0 : Int32)), .val (.int (0 : Int32)), .val .null, .unset] [(.ref sb), (.ref a1)])) rfl rfl (hb hby d3_14)
  refine own_go st5 ?_
  have Fw5 := (F_v.ext E3).same W5
  have N5 := Fr.snoc X5 N0 g_a
  have K5 : Keep h0 h5 [a1] := K3.wr W5 (Or.inl (List.mem_of_getElem? (i := 0) rfl))
  show WP p e below _ (T5.setTop (mkF m 17 #[.val (.ref a1), .val (.ref a2), .val (.int (0 : Int32)), .val (.int (0 : Int32)), .val .null, .unset] []))
  refine own_go (fun t_ k => XS.aloadN X5.here hx rfl (hb hby d3_17) rfl rfl k) ?_
  show WP p e below _ (T5.setTop (mkF m 18 #[.val (.ref a1), .val (.ref a2), .val (.int (0 : Int32)), .val (.int (0 : Int32)), .val .null, .unset] [(.ref a1)]))
  refine own_go (Jvm.RoadKit.ldcAgain (s := s) (vm0 := T3.vm) X5 hx hZ hown (hw _ (List.mem_of_getElem? (i := 18) rfl)) hL3 (g := (mkF m 18 #[.val (.ref a1), .val (.ref a2), .val (.int (0 : Int32)), .val (.int (0 : Int32)), .val .null, .unset] [(.ref a1)])) rfl (hb hby d3_18)) ?_
  show WP p e below _ (T5.setTop (mkF m 20 #[.val (.ref a1), .val (.ref a2), .val (.int (0 : Int32)), .val (.int (0 : Int32)), .val .null, .unset] [(.ref sa), (.ref a1)]))
  obtain ⟨T6, X6, e6, st6⟩ := getF X5 hx hZ hown (host := "") (Or.inl (hw _ (List.mem_of_getElem? (i := 25) rfl))) Via.refl e5 (FC.other W5 (Or.inl (Ne.symm ne_a1_sa))) (g := (mkF m 20 #[.val (.ref a1), .val (.ref a2), .val (.int (0 : Int32)), .val (.int (0 : Int32)), .val .null, .unset] [(.ref sa), (.ref a1)])) rfl rfl (hb hby d3_20)
  refine own_go st6 ?_
  show WP p e below _ (T6.setTop (mkF m 23 #[.val (.ref a1), .val (.ref a2), .val (.int (0 : Int32)), .val (.int (0 : Int32)), .val .null, .unset] [(.int (0 : Int32)), (.ref a1)]))
  obtain ⟨T7, h7, X7, e7, W7, st7⟩ := putFN X6 hx hZ hown (hw _ (List.mem_of_getElem? (i := 25) rfl)) Via.refl e6 ((F_c.ext E3).other W5 (Or.inr (slot_ne (Or.inr (hw _ (List.mem_of_getElem? (i := 21) rfl))) (Or.inr (hw _ (List.mem_of_getElem? (i := 20) rfl))) (by decide) (t := .byte) (t' := (.array .byte)) (by decide) (by decide)))) ((E_a.ext E3).wr W5) (Or.inr ⟨(hw _ (List.mem_of_getElem? (i := 21) rfl)), rfl, hnm⟩) (hw _ (List.mem_of_getElem? (i := 5) rfl)) (ty := .byte) (v' := (.int (0 : Int32))) (by decide) rfl (by decide) (g := (mkF m 23 #[.val (.ref a1), .val (.ref a2), .val (.int (0 : Int32)), .val (.int (0 : Int32)), .val .null, .unset] [(.int (0 : Int32)), (.ref a1)])) rfl rfl (hb hby d3_23)
  refine own_go st7 ?_
  have Fw7 := ((F_c.ext E3).other W5 (Or.inr (slot_ne (Or.inr (hw _ (List.mem_of_getElem? (i := 21) rfl))) (Or.inr (hw _ (List.mem_of_getElem? (i := 20) rfl))) (by decide) (t := .byte) (t' := (.array .byte)) (by decide) (by decide)))).same W7
  have N7 := Fr.snoc X7 N5 g_a
  have K7 : Keep h0 h7 [a1] := K5.wr W7 (Or.inl (List.mem_of_getElem? (i := 0) rfl))
  show WP p e below _ (T7.setTop (mkF m 26 #[.val (.ref a1), .val (.ref a2), .val (.int (0 : Int32)), .val (.int (0 : Int32)), .val .null, .unset] []))
  exact own_retH0 X7 S3 (by rw [e7]; exact (Nat.le_trans (Nat.le_trans hk3 (own_wrsz W5)) (own_wrsz W7))) hx Bd.notSynchronized Bd.returns (hb hby d3_26) (by rw [e7]; exact ⟨sb, ks, rfl, N7, K7, (((E_a.ext E3).wr W5).wr W7), Fw7, (Fw5.other W7 (Or.inr (slot_ne (Or.inr (hw _ (List.mem_of_getElem? (i := 20) rfl))) (Or.inr (hw _ (List.mem_of_getElem? (i := 21) rfl))) (by decide) (t := (.array .byte)) (t' := .byte) (by decide) (by decide)))), ((VB.other W5 (Ne.symm ne_a1_sb)).other W7 (Ne.symm ne_a1_sb)), ne_a1_sb⟩) (by rw [e7, hh]; exact (((hC3.trans (CHr.wr W5 Sg3 hC3.1)).trans (CHr.wr W7 (Safe.wr W5 Sg3 hC3.1 Sg3) (CHv.wr W5 Sg3 hC3.1)))).trans (CHv.at X7 hZ hEL (((hC3.trans (CHr.wr W5 Sg3 hC3.1)).trans (CHr.wr W7 (Safe.wr W5 Sg3 hC3.1 Sg3) (CHv.wr W5 Sg3 hC3.1)))).1)) (by decide) (by decide)
def Q_rmS2_0 (Z : State) (a1 : Addr) (a2 : Addr) (kc : ClassId) (h0 : Heap) (n0 : Nat) (v : Option Value) (h : Heap) (L : List Loc) : Prop := ∃ (b : Addr) (k : ClassId), v = none ∧ Fr n0 L ∧ Keep h0 h [a1] ∧ Exa Z h a1 "java/lang/String" ∧ Fld Z h a1 "java/lang/String" "coder" "B" (.int (0 : Int32)) ∧ Fld Z h a1 "java/lang/String" "value" "[B" (.ref b) ∧ Arv Z h b k .byte (0 : Int32) [] (.int (0 : Int32)) ∧ a1 ≠ b
theorem ef_rmS2_0 (m : MethodId) (x0 : Addr) (x1 : Addr) : entryFrame m #[(.ref x0), (.ref x1)] 2 = mkF m 0 #[.val (.ref x0), .val (.ref x1)] [] := by first | (simp [entryFrame, mkF, argsToLocals, Value.category]; done) | rfl
set_option maxRecDepth 65536 in
set_option maxHeartbeats 40000000 in
theorem rmS2_0 (l : Launch) (Z : State) (a0 : Array Value) (hw : ∀ d ∈ tables_1, d.before a0 Z = true) (ws : List Jvm.Cond) (a1 : Addr) (a2 : Addr) (kc : ClassId) (h0 : Heap) (n0 : Nat) (Z0 : n0 ≤ h0.size) (g_a : n0 ≤ a1) (E_a : Exa Z h0 a1 "java/lang/String") (F_v : Fld Z h0 a1 "java/lang/String" "value" "[B" .null) (F_c : Fld Z h0 a1 "java/lang/String" "coder" "B" (.int (0 : Int32))) (V_c : Arv Z h0 a2 kc .char (0 : Int32) [] (.int (0 : Int32))) :
    MetFree l (⟨"java/lang/String", "<init>", "([C)V"⟩ : MethodName) (head1 (Jvm.Cond.code (⟨"java/lang/String", "<init>", "([C)V"⟩ : MethodName) jdk_42_method_3_code 2 none :: ws) ({ frames := 2, cells := 2, slots := 4, locals := 29 } : Room)) (fun a U => a = #[(.ref a1), (.ref a2)] ∧ Z.Warmed39 U.vm ∧ U.heap = h0 ∧ CHv Z EL0 U.vm h0) (fun _ _ _ _ _ => True) (fun _ U o U' => ∃ v L, o = .returned v ∧ (Q_rmS2_0 Z a1 a2 kc h0 n0) v U'.heap L ∧ CHr Z EL0 U.vm U.heap U'.vm U'.heap ∧ ReturnedEndW U o U' L ({ frames := 2, cells := 2, slots := 4, locals := 29 } : Room).cells ({ frames := 2, cells := 2, slots := 4, locals := 29 } : Room).slots) := by
  refine MetFree.of_bodySF (plainFor_of_name pn_1) hisR ?_
  intro p e s m args below meth c s₁ Bd hml0 hP hK
  obtain ⟨rfl, hZ, hh, hC0⟩ := hP
  have hEL : EW Z a0 EL0 := own_EW hw
  have hS0 : s.Since s.vm s.heap.size := (State.WarmedH.refl s).since _
  have hx := Bd.exec
  have hby := Bd.bytes
  have hml : c.maxLocals = 2 := hml0
  have hown : s.vm.findClass "java/lang/String" = some m.cls := findClass_of_methodNamed Bd.named
  have hnm := (name_of_methodNamed Bd.named Bd.method).1
  have X0 : Stand p l e ({ frames := 2, cells := 2, slots := 4, locals := 29 } : Room) s m #[(.ref a1), (.ref a2)] below meth c s₁ [] 0 0 := Stand.of_body Bd
  have e0 : s₁.heap = h0 := by rw [← hh, Bd.state]; rfl
  have N0 := Fr.nil n0
  show WP p e below (GGH (Q_rmS2_0 Z a1 a2 kc h0 n0) s Z EL0 ({ frames := 2, cells := 2, slots := 4, locals := 29 } : Room).cells ({ frames := 2, cells := 2, slots := 4, locals := 29 } : Room).slots) (s₁.setTop (entryFrame m #[(.ref a1), (.ref a2)] 2))
  rw [ef_rmS2_0 m a1 a2]
  show WP p e below _ (s₁.setTop (mkF m 0 #[.val (.ref a1), .val (.ref a2)] []))
  refine own_go (fun t_ k => XS.aloadN X0.here hx rfl (hb hby d2_0) rfl rfl k) ?_
  show WP p e below _ (s₁.setTop (mkF m 1 #[.val (.ref a1), .val (.ref a2)] [(.ref a1)]))
  refine own_go (fun t_ k => XS.aloadN X0.here hx rfl (hb hby d2_1) rfl rfl k) ?_
  show WP p e below _ (s₁.setTop (mkF m 2 #[.val (.ref a1), .val (.ref a2)] [(.ref a2), (.ref a1)]))
  refine own_go (fun t_ k => XS.iconst X0.here hx rfl (hb hby d2_2) k) ?_
  show WP p e below _ (s₁.setTop (mkF m 3 #[.val (.ref a1), .val (.ref a2)] [(.int (0 : Int32)), (.ref a2), (.ref a1)]))
  refine own_go (fun t_ k => XS.aloadN X0.here hx rfl (hb hby d2_3) rfl rfl k) ?_
  show WP p e below _ (s₁.setTop (mkF m 4 #[.val (.ref a1), .val (.ref a2)] [(.ref a2), (.int (0 : Int32)), (.ref a2), (.ref a1)]))
  obtain ⟨cl1, Ar1, -, S1, M1, -, -⟩ := id (V_c)
  refine own_go (fun t_ k => X0.arraylength hx (by rw [e0]; exact Ar1.1) (State.isArrayOf_alike hZ.alike Ar1.2.1) (g := (mkF m 4 #[.val (.ref a1), .val (.ref a2)] [(.ref a2), (.int (0 : Int32)), (.ref a2), (.ref a1)])) rfl rfl (hb hby d2_4) _ (by rw [len_of S1 M1]; exact k)) ?_
  show WP p e below _ (s₁.setTop (mkF m 5 #[.val (.ref a1), .val (.ref a2)] [(.int (0 : Int32)), (.int (0 : Int32)), (.ref a2), (.ref a1)]))
  refine own_go (fun t_ k => XS.aconstNull X0.here hx rfl (hb hby d2_5) k) ?_
  show WP p e below _ (s₁.setTop (mkF m 6 #[.val (.ref a1), .val (.ref a2)] [.null, (.int (0 : Int32)), (.int (0 : Int32)), (.ref a2), (.ref a1)]))
  obtain ⟨_, T2, Lc2, X2, Sc2, hsz2, hQ2, hCr2, st2⟩ := own_unS X0 2 4 (X0.specialBackS hx (y := (⟨"java/lang/String", "<init>", "([CIILjava/lang/Void;)V"⟩ : MethodName)) rfl hown (mvT hZ (hw _ (List.mem_of_getElem? (i := 11) rfl))) (mvT hZ (hw _ (List.mem_of_getElem? (i := 12) rfl))) (mvT hZ (hw _ (List.mem_of_getElem? (i := 14) rfl))) (by decide) (backOfSH (s := s) (vm0 := s.vm) (EL := EL0) (W := 0) (rmS3_0 l Z a0 hw [] a1 a2 h0 n0 (Nat.le_trans Z0 (Keep.refl h0 [a1]).1) g_a E_a F_v F_c) hZ (hw _ (List.mem_of_getElem? (i := 14) rfl)) (hw _ (List.mem_of_getElem? (i := 6) rfl)) (by decide) (by decide) hEL (hC0)) (g := (mkF m 6 #[.val (.ref a1), .val (.ref a2)] [.null, (.int (0 : Int32)), (.int (0 : Int32)), (.ref a2), (.ref a1)])) rfl (by rw [hml]; rfl) (Steps.refl _) (a := a1) (argsL := [(.ref a2), (.int (0 : Int32)), (.int (0 : Int32)), .null]) (rest := []) (lenOf pd_3 rfl) rfl (by show 2 * 0 + _ ≤ _; exact Nat.le_of_eq rfl) (hb hby d2_6) (fun _ _ => ⟨rfl, e0, (by decide : 0 + 2 ≤ _), (by decide : 0 + 4 ≤ _)⟩))
  dsimp only [Pt.U] at st2
  have hZ : Z.Warmed39 (s.setVm T2.vm).vm := own_hZ hZ Sc2
  have hown : (s.setVm T2.vm).vm.findClass "java/lang/String" = some m.cls := own_hown hown Sc2
  have Sn2 : s.Since T2.vm T2.heap.size := Sc2
  have er2 : T2.heap = T2.heap := rfl
  obtain ⟨bb2, kk2, rfl, N2q, K2c, E2c, Fc2c, Fv2c, V2c, nb2⟩ := hQ2
  have N2 := Fr.app N0 N2q
  replace X2 : Stand p l e ({ frames := 2, cells := 2, slots := 4, locals := 29 } : Room) (s.setVm T2.vm) m _ below meth c T2 _ 2 4 := X2
  refine own_go (fun t_ k => st2.trans k) ?_
  have K2 : Keep h0 T2.heap [a1] := (Keep.refl h0 [a1]).trans K2c (allS (Or.inl (List.mem_of_getElem? (i := 0) rfl)) all0)
  show WP p e below _ (T2.setTop (mkF m 9 #[.val (.ref a1), .val (.ref a2)] []))
  exact own_retH0 X2 Sn2 (by rw [er2]; exact (Nat.le_refl _)) hx Bd.notSynchronized Bd.returns (hb hby d2_9) (by rw [er2]; exact ⟨bb2, kk2, rfl, N2, K2, E2c, Fc2c, Fv2c, V2c, nb2⟩) (by rw [er2, hh]; exact ((((CHr.refl hC0)).trans hCr2)).trans (CHv.at X2 hZ hEL ((((CHr.refl hC0)).trans hCr2)).1)) (by decide) (by decide)
def QStr (Z : State) (p1 p2 p3 : Int32) (h0 : Heap) (n0 : Nat) (v : Option Value) (h : Heap) (L : List Loc) : Prop := ∃ (a b : Addr) (k : ClassId) (n : Int32) (xs : List Value), v = some (.ref a) ∧ Fr n0 L ∧ Keep h0 h [] ∧ h0.size ≤ a ∧ Exa Z h a "java/lang/String" ∧ Fld Z h a "java/lang/String" "coder" "B" (.int (0 : Int32)) ∧ Fld Z h a "java/lang/String" "value" "[B" (.ref b) ∧ Arv Z h b k .byte n xs (.int (0 : Int32)) ∧ a ≠ b ∧ SX p1 p2 p3 n xs
theorem pd_4 : parseMethodDescriptor "([C)V" = some ⟨[(.array .char)], none⟩ := by decide +kernel
theorem d1_0 : decode method_3_code 0 = .ok (.iload_n 0, 1) := by decide +kernel
theorem d1_1 : decode method_3_code 1 = .ok (.ifCond .ne 14, 3) := by decide +kernel
theorem d1_4 : decode method_3_code 4 = .ok (.new 25, 3) := by decide +kernel
theorem d1_7 : decode method_3_code 7 = .ok (.dup, 1) := by decide +kernel
theorem d1_8 : decode method_3_code 8 = .ok (.iconst 0, 1) := by decide +kernel
theorem d1_9 : decode method_3_code 9 = .ok (.newarray .char, 2) := by decide +kernel
theorem d1_11 : decode method_3_code 11 = .ok (.invokespecial 27, 3) := by decide +kernel
theorem d1_14 : decode method_3_code 14 = .ok (.areturn, 1) := by decide +kernel
theorem pn_2 : plainName "com/example/covenant_atlas/covenantatlas/model/OutlineEntryEqualsPinLaw" = true := by first | (simp [plainName, overriddenIn]; done) | decide +kernel
theorem ef_rmStr_0 (m : MethodId) (x0 : Int32) (x1 : Int32) (x2 : Int32) : entryFrame m #[(.int x0), (.int x1), (.int x2)] 3 = mkF m 0 #[.val (.int x0), .val (.int x1), .val (.int x2)] [] := by first | (simp [entryFrame, mkF, argsToLocals, Value.category]; done) | rfl
set_option maxRecDepth 65536 in
set_option maxHeartbeats 40000000 in
theorem rmStr_0 (l : Launch) (Z : State) (a0 : Array Value) (hw : ∀ d ∈ tables_1, d.before a0 Z = true) (ws : List Jvm.Cond) (p2 : Int32) (p3 : Int32) (cs : Int32) (h0 : Heap) (n0 : Nat) (Z0 : n0 ≤ h0.size) (S_c : Sta Z h0 "java/lang/String" "COMPACT_STRINGS" "Z" (.int cs)) (hcs : ¬ cs = (0 : Int32)) (hb2 : 0 ≤ p2.toInt ∧ p2.toInt ≤ 255) (hb3 : 0 ≤ p3.toInt ∧ p3.toInt ≤ 255) :
    MetFree l (⟨"com/example/covenant_atlas/covenantatlas/model/OutlineEntryEqualsPinLaw", "str", "(III)Ljava/lang/String;"⟩ : MethodName) (head1 (Jvm.Cond.code (⟨"com/example/covenant_atlas/covenantatlas/model/OutlineEntryEqualsPinLaw", "str", "(III)Ljava/lang/String;"⟩ : MethodName) method_3_code 3 (some (.object "java/lang/String")) :: ws) ({ frames := 4, cells := 4, slots := 8, locals := 66 } : Room)) (fun a U => a = #[(.int (0 : Int32)), (.int p2), (.int p3)] ∧ Z.Warmed39 U.vm ∧ U.heap = h0 ∧ CHv Z EL0 U.vm h0) (fun _ _ _ _ _ => True) (fun _ U o U' => ∃ v L, o = .returned v ∧ (QStr Z (0 : Int32) p2 p3 h0 n0) v U'.heap L ∧ CHr Z EL0 U.vm U.heap U'.vm U'.heap ∧ ReturnedEndW U o U' L ({ frames := 4, cells := 4, slots := 8, locals := 66 } : Room).cells ({ frames := 4, cells := 4, slots := 8, locals := 66 } : Room).slots) := by
  refine MetFree.of_bodySF (plainFor_of_name pn_2) hisR ?_
  intro p e s m args below meth c s₁ Bd hml0 hP hK
  obtain ⟨rfl, hZ, hh, hC0⟩ := hP
  have hEL : EW Z a0 EL0 := own_EW hw
  have hS0 : s.Since s.vm s.heap.size := (State.WarmedH.refl s).since _
  have hx := Bd.exec
  have hby := Bd.bytes
  have hml : c.maxLocals = 3 := hml0
  have hown : s.vm.findClass "com/example/covenant_atlas/covenantatlas/model/OutlineEntryEqualsPinLaw" = some m.cls := findClass_of_methodNamed Bd.named
  have hnm := (name_of_methodNamed Bd.named Bd.method).1
  have X0 : Stand p l e ({ frames := 4, cells := 4, slots := 8, locals := 66 } : Room) s m #[(.int (0 : Int32)), (.int p2), (.int p3)] below meth c s₁ [] 0 0 := Stand.of_body Bd
  have e0 : s₁.heap = h0 := by rw [← hh, Bd.state]; rfl
  have N0 := Fr.nil n0
  show WP p e below (GGH (QStr Z (0 : Int32) p2 p3 h0 n0) s Z EL0 ({ frames := 4, cells := 4, slots := 8, locals := 66 } : Room).cells ({ frames := 4, cells := 4, slots := 8, locals := 66 } : Room).slots) (s₁.setTop (entryFrame m #[(.int (0 : Int32)), (.int p2), (.int p3)] 3))
  rw [ef_rmStr_0 m (0 : Int32) p2 p3]
  show WP p e below _ (s₁.setTop (mkF m 0 #[.val (.int (0 : Int32)), .val (.int p2), .val (.int p3)] []))
  refine own_go (fun t_ k => XS.iloadN X0.here hx rfl (hb hby d1_0) rfl k) ?_
  show WP p e below _ (s₁.setTop (mkF m 1 #[.val (.int (0 : Int32)), .val (.int p2), .val (.int p3)] [(.int (0 : Int32))]))
  have hc1_1 : ((0 : Int32) = (0 : Int32)) := by decide
  refine own_go (fun t_ k => XS.ifNo X0.here hx rfl (hb hby d1_1) rfl ((if0 _ _).trans (teq hc1_1).2) k) ?_
  show WP p e below _ (s₁.setTop (mkF m 4 #[.val (.int (0 : Int32)), .val (.int p2), .val (.int p3)] []))
  obtain ⟨T2, h2, X2, e2, E2, A2, D2, -, st2⟩ := newO X0 hx hZ hown (hw _ (List.mem_of_getElem? (i := 4) rfl)) (hw _ (List.mem_of_getElem? (i := 5) rfl)) (hw _ (List.mem_of_getElem? (i := 6) rfl)) e0 (g := (mkF m 4 #[.val (.int (0 : Int32)), .val (.int p2), .val (.int p3)] [])) rfl (hb hby d1_4) (by decide) (by decide)
  obtain ⟨b2, g2⟩ : ∃ z, z = Array.size h0 := ⟨_, rfl⟩
  rw [← g2] at A2 D2 st2
  refine own_go st2 ?_
  have g_b2 : n0 ≤ b2 := Nat.le_trans (Nat.le_trans Z0 (Keep.refl h0 []).1) (Nat.le_of_eq g2.symm)
  have sz_b2 : h0.size ≤ b2 := Nat.le_trans (Keep.refl h0 []).1 (Nat.le_of_eq g2.symm)
  have K2 : Keep h0 h2 [] := (Keep.refl h0 []).ext E2
  have F2_value : Fld Z h2 b2 "java/lang/String" "value" "[B" .null := D2 (Or.inr (hw _ (List.mem_of_getElem? (i := 20) rfl))) (ty := (.array .byte)) (by decide)
  have F2_coder : Fld Z h2 b2 "java/lang/String" "coder" "B" (.int (0 : Int32)) := D2 (Or.inr (hw _ (List.mem_of_getElem? (i := 21) rfl))) (ty := .byte) (by decide)
  show WP p e below _ (T2.setTop (mkF m 7 #[.val (.int (0 : Int32)), .val (.int p2), .val (.int p3)] [(.ref b2)]))
  refine own_go (fun t_ k => XS.dup X2.here hx rfl (hb hby d1_7) rfl rfl k) ?_
  show WP p e below _ (T2.setTop (mkF m 8 #[.val (.int (0 : Int32)), .val (.int p2), .val (.int p3)] [(.ref b2), (.ref b2)]))
  refine own_go (fun t_ k => XS.iconst X2.here hx rfl (hb hby d1_8) k) ?_
  show WP p e below _ (T2.setTop (mkF m 9 #[.val (.int (0 : Int32)), .val (.int p2), .val (.int p3)] [(.int (0 : Int32)), (.ref b2), (.ref b2)]))
  obtain ⟨T3, h3, k3, X3, e3, E3, A3, st3⟩ := newP X2 hx hZ (hw _ (List.mem_of_getElem? (i := 7) rfl)) e2 (g := (mkF m 9 #[.val (.int (0 : Int32)), .val (.int p2), .val (.int p3)] [(.int (0 : Int32)), (.ref b2), (.ref b2)])) rfl (hb hby d1_9) rfl (by decide) (cap := 0) (by decide) (by decide) (by decide) (by decide)
  obtain ⟨b3, g3⟩ : ∃ z, z = Array.size h2 := ⟨_, rfl⟩
  rw [← g3] at A3 st3
  refine own_go st3 ?_
  have g_b3 : n0 ≤ b3 := Nat.le_trans (Nat.le_trans Z0 K2.1) (Nat.le_of_eq g3.symm)
  have sz_b3 : h0.size ≤ b3 := Nat.le_trans K2.1 (Nat.le_of_eq g3.symm)
  have ne_b2_b3 : b2 ≠ b3 := Nat.ne_of_lt (Nat.lt_of_lt_of_le A2.lt (Nat.le_of_eq g3.symm))
  have K3 : Keep h0 h3 [] := K2.ext E3
  have V3 : Arv Z h3 b3 k3 .char (0 : Int32) [] (.int (0 : Int32)) := (Arv.new A3 (by decide)).pad (pad_rep [] (.int (0 : Int32)) 0)
  show WP p e below _ (T3.setTop (mkF m 11 #[.val (.int (0 : Int32)), .val (.int p2), .val (.int p3)] [(.ref b3), (.ref b2), (.ref b2)]))
  obtain ⟨_, T4, Lc4, X4, Sc4, hsz4, hQ4, hCr4, st4⟩ := own_unS X3 2 4 (X3.specialBackS hx (y := (⟨"java/lang/String", "<init>", "([C)V"⟩ : MethodName)) rfl hown (mvT hZ (hw _ (List.mem_of_getElem? (i := 8) rfl))) (mvT hZ (hw _ (List.mem_of_getElem? (i := 9) rfl))) (mvT hZ (hw _ (List.mem_of_getElem? (i := 10) rfl))) (by decide) (backOfSH (s := s) (vm0 := s.vm) (EL := EL0) (W := 1) (rmS2_0 l Z a0 hw [] b2 b3 k3 h3 n0 (Nat.le_trans Z0 K3.1) g_b2 (A2.ext E3) (F2_value.ext E3) (F2_coder.ext E3) V3) hZ (hw _ (List.mem_of_getElem? (i := 10) rfl)) (hw _ (List.mem_of_getElem? (i := 6) rfl)) (by decide) (by decide) hEL ((CHv.ext E3 (CHv.ext E2 hC0)))) (g := (mkF m 11 #[.val (.int (0 : Int32)), .val (.int p2), .val (.int p3)] [(.ref b3), (.ref b2), (.ref b2)])) rfl (by rw [hml]; rfl) (Steps.refl _) (a := b2) (argsL := [(.ref b3)]) (rest := [(.ref b2)]) (lenOf pd_4 rfl) rfl (by show 2 * 0 + _ ≤ _; exact Nat.le_of_eq rfl) (hb hby d1_11) (fun _ _ => ⟨rfl, e3, (by decide : 2 + 2 ≤ _), (by decide : 4 + 4 ≤ _)⟩))
  dsimp only [Pt.U] at st4
  have hZ : Z.Warmed39 (s.setVm T4.vm).vm := own_hZ hZ Sc4
  have hown : (s.setVm T4.vm).vm.findClass "com/example/covenant_atlas/covenantatlas/model/OutlineEntryEqualsPinLaw" = some m.cls := own_hown hown Sc4
  have Sn4 : s.Since T4.vm T4.heap.size := Sc4
  have er4 : T4.heap = T4.heap := rfl
  obtain ⟨bb4, kk4, rfl, N4q, K4c, E4c, Fc4c, Fv4c, V4c, nb4⟩ := hQ4
  have N4 := Fr.app N0 N4q
  replace X4 : Stand p l e ({ frames := 4, cells := 4, slots := 8, locals := 66 } : Room) (s.setVm T4.vm) m _ below meth c T4 _ 4 8 := X4
  refine own_go (fun t_ k => st4.trans k) ?_
  have K4 : Keep h0 T4.heap [] := K3.trans K4c (allS (Or.inr sz_b2) all0)
  show WP p e below _ (T4.setTop (mkF m 14 #[.val (.int (0 : Int32)), .val (.int p2), .val (.int p3)] [(.ref b2)]))
  exact own_retHA X4 Sn4 (by rw [er4]; exact (Nat.le_refl _)) hx Bd.notSynchronized Bd.returns rfl rfl (hb hby d1_14) (by rw [er4]; exact ⟨b2, bb4, kk4, (0 : Int32), _, rfl, N4, K4, sz_b2, E4c, Fc4c, Fv4c, V4c, nb4, Or.inl ⟨rfl, rfl, rfl⟩⟩) (by rw [er4, hh]; exact ((((((CHr.refl hC0)).trans (CHr.ext E2 ((CHr.refl hC0)).1)).trans (CHr.ext E3 (((CHr.refl hC0)).trans (CHr.ext E2 ((CHr.refl hC0)).1)).1)).trans hCr4)).trans (CHv.at X4 hZ hEL ((((((CHr.refl hC0)).trans (CHr.ext E2 ((CHr.refl hC0)).1)).trans (CHr.ext E3 (((CHr.refl hC0)).trans (CHr.ext E2 ((CHr.refl hC0)).1)).1)).trans hCr4)).1)) (by decide) (by decide)
theorem d1_15 : decode method_3_code 15 = .ok (.iload_n 0, 1) := by decide +kernel
theorem d1_16 : decode method_3_code 16 = .ok (.iconst 1, 1) := by decide +kernel
theorem d1_17 : decode method_3_code 17 = .ok (.if_icmp .ne 19, 3) := by decide +kernel
theorem d1_20 : decode method_3_code 20 = .ok (.new 25, 3) := by decide +kernel
theorem d1_23 : decode method_3_code 23 = .ok (.dup, 1) := by decide +kernel
theorem d1_24 : decode method_3_code 24 = .ok (.iconst 1, 1) := by decide +kernel
theorem d1_25 : decode method_3_code 25 = .ok (.newarray .char, 2) := by decide +kernel
theorem d1_27 : decode method_3_code 27 = .ok (.dup, 1) := by decide +kernel
theorem d1_28 : decode method_3_code 28 = .ok (.iconst 0, 1) := by decide +kernel
theorem d1_29 : decode method_3_code 29 = .ok (.iload_n 1, 1) := by decide +kernel
theorem d1_30 : decode method_3_code 30 = .ok (.i2c, 1) := by decide +kernel
theorem d1_31 : decode method_3_code 31 = .ok (.castore, 1) := by decide +kernel
theorem d1_32 : decode method_3_code 32 = .ok (.invokespecial 27, 3) := by decide +kernel
theorem d1_35 : decode method_3_code 35 = .ok (.areturn, 1) := by decide +kernel
theorem ef_rmStr_1 (m : MethodId) (x0 : Int32) (x1 : Int32) (x2 : Int32) : entryFrame m #[(.int x0), (.int x1), (.int x2)] 3 = mkF m 0 #[.val (.int x0), .val (.int x1), .val (.int x2)] [] := by first | (simp [entryFrame, mkF, argsToLocals, Value.category]; done) | rfl
set_option maxRecDepth 65536 in
set_option maxHeartbeats 40000000 in
theorem rmStr_1 (l : Launch) (Z : State) (a0 : Array Value) (hw : ∀ d ∈ tables_1, d.before a0 Z = true) (ws : List Jvm.Cond) (p2 : Int32) (p3 : Int32) (cs : Int32) (h0 : Heap) (n0 : Nat) (Z0 : n0 ≤ h0.size) (S_c : Sta Z h0 "java/lang/String" "COMPACT_STRINGS" "Z" (.int cs)) (hcs : ¬ cs = (0 : Int32)) (hb2 : 0 ≤ p2.toInt ∧ p2.toInt ≤ 255) (hb3 : 0 ≤ p3.toInt ∧ p3.toInt ≤ 255) :
    MetFree l (⟨"com/example/covenant_atlas/covenantatlas/model/OutlineEntryEqualsPinLaw", "str", "(III)Ljava/lang/String;"⟩ : MethodName) (head1 (Jvm.Cond.code (⟨"com/example/covenant_atlas/covenantatlas/model/OutlineEntryEqualsPinLaw", "str", "(III)Ljava/lang/String;"⟩ : MethodName) method_3_code 3 (some (.object "java/lang/String")) :: ws) ({ frames := 4, cells := 4, slots := 8, locals := 66 } : Room)) (fun a U => a = #[(.int (1 : Int32)), (.int p2), (.int p3)] ∧ Z.Warmed39 U.vm ∧ U.heap = h0) (fun _ _ _ _ _ => True) (fun _ U o U' => ∃ v L, o = .returned v ∧ (QStr Z (1 : Int32) p2 p3 h0 n0) v U'.heap L ∧ FrameEnd U o U' L ({ frames := 4, cells := 4, slots := 8, locals := 66 } : Room).cells ({ frames := 4, cells := 4, slots := 8, locals := 66 } : Room).slots) := by
  refine MetFree.of_bodySF (plainFor_of_name pn_2) hisR ?_
  intro p e s m args below meth c s₁ Bd hml0 hP hK
  obtain ⟨rfl, hZ, hh⟩ := hP
  have hx := Bd.exec
  have hby := Bd.bytes
  have hml : c.maxLocals = 3 := hml0
  have hown : s.vm.findClass "com/example/covenant_atlas/covenantatlas/model/OutlineEntryEqualsPinLaw" = some m.cls := findClass_of_methodNamed Bd.named
  have hnm := (name_of_methodNamed Bd.named Bd.method).1
  have X0 : Stand p l e ({ frames := 4, cells := 4, slots := 8, locals := 66 } : Room) s m #[(.int (1 : Int32)), (.int p2), (.int p3)] below meth c s₁ [] 0 0 := Stand.of_body Bd
  have e0 : s₁.heap = h0 := by rw [← hh, Bd.state]; rfl
  have N0 := Fr.nil n0
  show WP p e below (GG (QStr Z (1 : Int32) p2 p3 h0 n0) s ({ frames := 4, cells := 4, slots := 8, locals := 66 } : Room).cells ({ frames := 4, cells := 4, slots := 8, locals := 66 } : Room).slots) (s₁.setTop (entryFrame m #[(.int (1 : Int32)), (.int p2), (.int p3)] 3))
  rw [ef_rmStr_1 m (1 : Int32) p2 p3]
  show WP p e below _ (s₁.setTop (mkF m 0 #[.val (.int (1 : Int32)), .val (.int p2), .val (.int p3)] []))
  refine own_go (fun t_ k => XS.iloadN X0.here hx rfl (hb hby d1_0) rfl k) ?_
  show WP p e below _ (s₁.setTop (mkF m 1 #[.val (.int (1 : Int32)), .val (.int p2), .val (.int p3)] [(.int (1 : Int32))]))
  have hc1_1 : ¬ ((1 : Int32) = (0 : Int32)) := by decide
  refine own_go (fun t_ k => XS.ifYes X0.here hx rfl (pc0 := 1) (pc' := 15) rfl (hb hby d1_1) rfl ((if0 _ _).trans (feq hc1_1).2) (by decide) (by decide) k) ?_
  show WP p e below _ (s₁.setTop (mkF m 15 #[.val (.int (1 : Int32)), .val (.int p2), .val (.int p3)] []))
  refine own_go (fun t_ k => XS.iloadN X0.here hx rfl (hb hby d1_15) rfl k) ?_
  show WP p e below _ (s₁.setTop (mkF m 16 #[.val (.int (1 : Int32)), .val (.int p2), .val (.int p3)] [(.int (1 : Int32))]))
  refine own_go (fun t_ k => XS.iconst X0.here hx rfl (hb hby d1_16) k) ?_
  show WP p e below _ (s₁.setTop (mkF m 17 #[.val (.int (1 : Int32)), .val (.int p2), .val (.int p3)] [(.int (1 : Int32)), (.int (1 : Int32))]))
  have hc17_2 : ((1 : Int32) = (1 : Int32)) := by decide
  refine own_go (fun t_ k => XS.icmpNo X0.here hx rfl (hb hby d1_17) rfl (teq hc17_2).2 k) ?_
  show WP p e below _ (s₁.setTop (mkF m 20 #[.val (.int (1 : Int32)), .val (.int p2), .val (.int p3)] []))
  obtain ⟨T3, h3, X3, e3, E3, A3, D3, -, st3⟩ := newO X0 hx hZ hown (hw _ (List.mem_of_getElem? (i := 4) rfl)) (hw _ (List.mem_of_getElem? (i := 5) rfl)) (hw _ (List.mem_of_getElem? (i := 6) rfl)) e0 (g := (mkF m 20 #[.val (.int (1 : Int32)), .val (.int p2), .val (.int p3)] [])) rfl (hb hby d1_20) (by decide) (by decide)
  obtain ⟨b3, g3⟩ : ∃ z, z = Array.size h0 := ⟨_, rfl⟩
  rw [← g3] at A3 D3 st3
  refine own_go st3 ?_
  have g_b3 : n0 ≤ b3 := Nat.le_trans (Nat.le_trans Z0 (Keep.refl h0 []).1) (Nat.le_of_eq g3.symm)
  have sz_b3 : h0.size ≤ b3 := Nat.le_trans (Keep.refl h0 []).1 (Nat.le_of_eq g3.symm)
  have K3 : Keep h0 h3 [] := (Keep.refl h0 []).ext E3
  have F3_value : Fld Z h3 b3 "java/lang/String" "value" "[B" .null := D3 (Or.inr (hw _ (List.mem_of_getElem? (i := 20) rfl))) (ty := (.array .byte)) (by decide)
  have F3_coder : Fld Z h3 b3 "java/lang/String" "coder" "B" (.int (0 : Int32)) := D3 (Or.inr (hw _ (List.mem_of_getElem? (i := 21) rfl))) (ty := .byte) (by decide)
  show WP p e below _ (T3.setTop (mkF m 23 #[.val (.int (1 : Int32)), .val (.int p2), .val (.int p3)] [(.ref b3)]))
  refine own_go (fun t_ k => XS.dup X3.here hx rfl (hb hby d1_23) rfl rfl k) ?_
  show WP p e below _ (T3.setTop (mkF m 24 #[.val (.int (1 : Int32)), .val (.int p2), .val (.int p3)] [(.ref b3), (.ref b3)]))
  refine own_go (fun t_ k => XS.iconst X3.here hx rfl (hb hby d1_24) k) ?_
  show WP p e below _ (T3.setTop (mkF m 25 #[.val (.int (1 : Int32)), .val (.int p2), .val (.int p3)] [(.int (1 : Int32)), (.ref b3), (.ref b3)]))
  obtain ⟨T4, h4, k4, X4, e4, E4, A4, st4⟩ := newP X3 hx hZ (hw _ (List.mem_of_getElem? (i := 7) rfl)) e3 (g := (mkF m 25 #[.val (.int (1 : Int32)), .val (.int p2), .val (.int p3)] [(.int (1 : Int32)), (.ref b3), (.ref b3)])) rfl (hb hby d1_25) rfl (by decide) (cap := 1) (by decide) (by decide) (by decide) (by decide)
  obtain ⟨b4, g4⟩ : ∃ z, z = Array.size h3 := ⟨_, rfl⟩
  rw [← g4] at A4 st4
  refine own_go st4 ?_
  have g_b4 : n0 ≤ b4 := Nat.le_trans (Nat.le_trans Z0 K3.1) (Nat.le_of_eq g4.symm)
  have sz_b4 : h0.size ≤ b4 := Nat.le_trans K3.1 (Nat.le_of_eq g4.symm)
  have ne_b3_b4 : b3 ≠ b4 := Nat.ne_of_lt (Nat.lt_of_lt_of_le A3.lt (Nat.le_of_eq g4.symm))
  have K4 : Keep h0 h4 [] := K3.ext E4
  have V4 : Arv Z h4 b4 k4 .char (1 : Int32) [(.int (0 : Int32))] (.int (0 : Int32)) := (Arv.new A4 (by decide)).pad (pad_rep [] (.int (0 : Int32)) 1)
  show WP p e below _ (T4.setTop (mkF m 27 #[.val (.int (1 : Int32)), .val (.int p2), .val (.int p3)] [(.ref b4), (.ref b3), (.ref b3)]))
  refine own_go (fun t_ k => XS.dup X4.here hx rfl (hb hby d1_27) rfl rfl k) ?_
  show WP p e below _ (T4.setTop (mkF m 28 #[.val (.int (1 : Int32)), .val (.int p2), .val (.int p3)] [(.ref b4), (.ref b4), (.ref b3), (.ref b3)]))
  refine own_go (fun t_ k => XS.iconst X4.here hx rfl (hb hby d1_28) k) ?_
  show WP p e below _ (T4.setTop (mkF m 29 #[.val (.int (1 : Int32)), .val (.int p2), .val (.int p3)] [(.int (0 : Int32)), (.ref b4), (.ref b4), (.ref b3), (.ref b3)]))
  refine own_go (fun t_ k => XS.iloadN X4.here hx rfl (hb hby d1_29) rfl k) ?_
  show WP p e below _ (T4.setTop (mkF m 30 #[.val (.int (1 : Int32)), .val (.int p2), .val (.int p3)] [(.int p2), (.int (0 : Int32)), (.ref b4), (.ref b4), (.ref b3), (.ref b3)]))
  refine own_go (fun t_ k => XS.i2c X4.here hx rfl (hb hby d1_30) rfl k) ?_
  show WP p e below _ (T4.setTop (mkF m 31 #[.val (.int (1 : Int32)), .val (.int p2), .val (.int p3)] [(.int (p2.toUInt32.toUInt16.toUInt32.toInt32)), (.int (0 : Int32)), (.ref b4), (.ref b4), (.ref b3), (.ref b3)]))
  obtain ⟨cl5, Ar5, q5, S5, M5, H5, G5⟩ := id (V4)
  have hin5 : ¬ ((0 : Int32) < 0 ∨ cl5.slots.size ≤ ((0 : Int32)).toNatClampNeg) := inb_of S5 (⟨by decide, by decide⟩)
  obtain ⟨T6, h6, X6, e6, W6, st6⟩ := stC X4 hx hZ e4 Ar5 (j := (0 : Int32)) hin5 (g := (mkF m 31 #[.val (.int (1 : Int32)), .val (.int p2), .val (.int p3)] [(.int (p2.toUInt32.toUInt16.toUInt32.toInt32)), (.int (0 : Int32)), (.ref b4), (.ref b4), (.ref b3), (.ref b3)])) rfl rfl (hb hby d1_31)
  refine own_go st6 ?_
  have V6 : Arv Z h6 b4 k4 .char (1 : Int32) [(.int ((p2.toUInt32.toUInt16.toUInt32.toInt32).toUInt32.toUInt16.toUInt32.toInt32))] (.int (0 : Int32)) := Arv.set Ar5 q5 S5 M5 H5 G5 (fits_nar_char _) W6 0 rfl (Nat.le_of_ble_eq_true rfl)
  have N6 := Fr.snoc X6 N0 g_b4
  have K6 : Keep h0 h6 [] := K4.wr W6 (Or.inr sz_b4)
  show WP p e below _ (T6.setTop (mkF m 32 #[.val (.int (1 : Int32)), .val (.int p2), .val (.int p3)] [(.ref b4), (.ref b3), (.ref b3)]))
  obtain ⟨_, T7, Lc7, X7, hQ7, st7⟩ := own_un X6 1 1 (X6.specialBack hx (y := (⟨"java/lang/String", "<init>", "([C)V"⟩ : MethodName)) rfl hown (mvT hZ (hw _ (List.mem_of_getElem? (i := 8) rfl))) (mvT hZ (hw _ (List.mem_of_getElem? (i := 9) rfl))) (mvT hZ (hw _ (List.mem_of_getElem? (i := 10) rfl))) (by decide) (backOf (W := 1) (rmS2_1 l Z a0 hw [] b3 b4 k4 cs ((p2.toUInt32.toUInt16.toUInt32.toInt32).toUInt32.toUInt16.toUInt32.toInt32) h6 n0 (Nat.le_trans Z0 K6.1) g_b3 ((A3.ext E4).wr W6) ((F3_value.ext E4).other W6 (Or.inl ne_b3_b4)) ((F3_coder.ext E4).other W6 (Or.inl ne_b3_b4)) V6 (((S_c.ext E3).ext E4).wr W6) ne_b3_b4 hcs (own_ch2 hb2)) hZ (hw _ (List.mem_of_getElem? (i := 10) rfl)) (hw _ (List.mem_of_getElem? (i := 6) rfl)) (by decide) (by decide)) (g := (mkF m 32 #[.val (.int (1 : Int32)), .val (.int p2), .val (.int p3)] [(.ref b4), (.ref b3), (.ref b3)])) rfl (by rw [hml]; rfl) (Steps.refl _) (a := b3) (argsL := [(.ref b4)]) (rest := [(.ref b3)]) (lenOf pd_4 rfl) rfl (by show 2 * 0 + _ ≤ _; exact Nat.le_of_eq rfl) (hb hby d1_32) (fun _ _ => ⟨rfl, e6, (by decide : 2 + 1 ≤ _), (by decide : 5 + 1 ≤ _)⟩))
  dsimp only [Pt.U] at st7
  have er7 : T7.heap = T7.heap := rfl
  obtain ⟨b7_0, kb7_0, rfl, N7q, K7c, sz7_0, F7c0, F7c1, F7c2, F7c3⟩ := hQ7
  have N7 := Fr.app N6 N7q
  replace X7 : Stand p l e ({ frames := 4, cells := 4, slots := 8, locals := 66 } : Room) s m _ below meth c T7 _ 3 6 := X7
  refine own_go (fun t_ k => st7.trans k) ?_
  have Sk7_0 := own_sta_k (((S_c.ext E3).ext E4).wr W6) K7c (own_plS (own_plE ((A3.ext E4).wr W6)) (own_pl0))
  have g_b7_0 : n0 ≤ b7_0 := Nat.le_trans (Nat.le_trans Z0 K6.1) sz7_0
  have szz_b7_0 : h0.size ≤ b7_0 := Nat.le_trans K6.1 sz7_0
  have ne_b3_b7_0 : b3 ≠ b7_0 := Nat.ne_of_lt (Nat.lt_of_lt_of_le ((A3.ext E4).wr W6).lt sz7_0)
  have ne_b4_b7_0 : b4 ≠ b7_0 := Nat.ne_of_lt (Nat.lt_of_lt_of_le V6.lt sz7_0)
  have K7 : Keep h0 T7.heap [] := K6.trans K7c (allS (Or.inr sz_b3) all0)
  show WP p e below _ (T7.setTop (mkF m 35 #[.val (.int (1 : Int32)), .val (.int p2), .val (.int p3)] [(.ref b3)]))
  exact own_retA X7 hx Bd.notSynchronized Bd.returns rfl rfl (hb hby d1_35) (by rw [er7]; exact ⟨b3, b7_0, kb7_0, (1 : Int32), _, rfl, N7, K7, sz_b3, F7c0, F7c2, F7c1, F7c3, ne_b3_b7_0, Or.inr (Or.inl ⟨rfl, rfl, rfl⟩)⟩) (by decide) (by decide)
theorem d1_36 : decode method_3_code 36 = .ok (.new 25, 3) := by decide +kernel
theorem d1_39 : decode method_3_code 39 = .ok (.dup, 1) := by decide +kernel
theorem d1_40 : decode method_3_code 40 = .ok (.iconst 2, 1) := by decide +kernel
theorem d1_41 : decode method_3_code 41 = .ok (.newarray .char, 2) := by decide +kernel
theorem d1_43 : decode method_3_code 43 = .ok (.dup, 1) := by decide +kernel
theorem d1_44 : decode method_3_code 44 = .ok (.iconst 0, 1) := by decide +kernel
theorem d1_45 : decode method_3_code 45 = .ok (.iload_n 1, 1) := by decide +kernel
theorem d1_46 : decode method_3_code 46 = .ok (.i2c, 1) := by decide +kernel
theorem d1_47 : decode method_3_code 47 = .ok (.castore, 1) := by decide +kernel
theorem d1_48 : decode method_3_code 48 = .ok (.dup, 1) := by decide +kernel
theorem d1_49 : decode method_3_code 49 = .ok (.iconst 1, 1) := by decide +kernel
theorem d1_50 : decode method_3_code 50 = .ok (.iload_n 2, 1) := by decide +kernel
theorem d1_51 : decode method_3_code 51 = .ok (.i2c, 1) := by decide +kernel
theorem d1_52 : decode method_3_code 52 = .ok (.castore, 1) := by decide +kernel
theorem d1_53 : decode method_3_code 53 = .ok (.invokespecial 27, 3) := by decide +kernel
theorem d1_56 : decode method_3_code 56 = .ok (.areturn, 1) := by decide +kernel
theorem ef_rmStr_2 (m : MethodId) (x0 : Int32) (x1 : Int32) (x2 : Int32) : entryFrame m #[(.int x0), (.int x1), (.int x2)] 3 = mkF m 0 #[.val (.int x0), .val (.int x1), .val (.int x2)] [] := by first | (simp [entryFrame, mkF, argsToLocals, Value.category]; done) | rfl
set_option maxRecDepth 65536 in
set_option maxHeartbeats 40000000 in
theorem rmStr_2 (l : Launch) (Z : State) (a0 : Array Value) (hw : ∀ d ∈ tables_1, d.before a0 Z = true) (ws : List Jvm.Cond) (p2 : Int32) (p3 : Int32) (cs : Int32) (h0 : Heap) (n0 : Nat) (Z0 : n0 ≤ h0.size) (S_c : Sta Z h0 "java/lang/String" "COMPACT_STRINGS" "Z" (.int cs)) (hcs : ¬ cs = (0 : Int32)) (hb2 : 0 ≤ p2.toInt ∧ p2.toInt ≤ 255) (hb3 : 0 ≤ p3.toInt ∧ p3.toInt ≤ 255) :
    MetFree l (⟨"com/example/covenant_atlas/covenantatlas/model/OutlineEntryEqualsPinLaw", "str", "(III)Ljava/lang/String;"⟩ : MethodName) (head1 (Jvm.Cond.code (⟨"com/example/covenant_atlas/covenantatlas/model/OutlineEntryEqualsPinLaw", "str", "(III)Ljava/lang/String;"⟩ : MethodName) method_3_code 3 (some (.object "java/lang/String")) :: ws) ({ frames := 4, cells := 4, slots := 8, locals := 66 } : Room)) (fun a U => a = #[(.int (2 : Int32)), (.int p2), (.int p3)] ∧ Z.Warmed39 U.vm ∧ U.heap = h0) (fun _ _ _ _ _ => True) (fun _ U o U' => ∃ v L, o = .returned v ∧ (QStr Z (2 : Int32) p2 p3 h0 n0) v U'.heap L ∧ FrameEnd U o U' L ({ frames := 4, cells := 4, slots := 8, locals := 66 } : Room).cells ({ frames := 4, cells := 4, slots := 8, locals := 66 } : Room).slots) := by
  refine MetFree.of_bodySF (plainFor_of_name pn_2) hisR ?_
  intro p e s m args below meth c s₁ Bd hml0 hP hK
  obtain ⟨rfl, hZ, hh⟩ := hP
  have hx := Bd.exec
  have hby := Bd.bytes
  have hml : c.maxLocals = 3 := hml0
  have hown : s.vm.findClass "com/example/covenant_atlas/covenantatlas/model/OutlineEntryEqualsPinLaw" = some m.cls := findClass_of_methodNamed Bd.named
  have hnm := (name_of_methodNamed Bd.named Bd.method).1
  have X0 : Stand p l e ({ frames := 4, cells := 4, slots := 8, locals := 66 } : Room) s m #[(.int (2 : Int32)), (.int p2), (.int p3)] below meth c s₁ [] 0 0 := Stand.of_body Bd
  have e0 : s₁.heap = h0 := by rw [← hh, Bd.state]; rfl
  have N0 := Fr.nil n0
  show WP p e below (GG (QStr Z (2 : Int32) p2 p3 h0 n0) s ({ frames := 4, cells := 4, slots := 8, locals := 66 } : Room).cells ({ frames := 4, cells := 4, slots := 8, locals := 66 } : Room).slots) (s₁.setTop (entryFrame m #[(.int (2 : Int32)), (.int p2), (.int p3)] 3))
  rw [ef_rmStr_2 m (2 : Int32) p2 p3]
  show WP p e below _ (s₁.setTop (mkF m 0 #[.val (.int (2 : Int32)), .val (.int p2), .val (.int p3)] []))
  refine own_go (fun t_ k => XS.iloadN X0.here hx rfl (hb hby d1_0) rfl k) ?_
  show WP p e below _ (s₁.setTop (mkF m 1 #[.val (.int (2 : Int32)), .val (.int p2), .val (.int p3)] [(.int (2 : Int32))]))
  have hc1_1 : ¬ ((2 : Int32) = (0 : Int32)) := by decide
  refine own_go (fun t_ k => XS.ifYes X0.here hx rfl (pc0 := 1) (pc' := 15) rfl (hb hby d1_1) rfl ((if0 _ _).trans (feq hc1_1).2) (by decide) (by decide) k) ?_
  show WP p e below _ (s₁.setTop (mkF m 15 #[.val (.int (2 : Int32)), .val (.int p2), .val (.int p3)] []))
  refine own_go (fun t_ k => XS.iloadN X0.here hx rfl (hb hby d1_15) rfl k) ?_
  show WP p e below _ (s₁.setTop (mkF m 16 #[.val (.int (2 : Int32)), .val (.int p2), .val (.int p3)] [(.int (2 : Int32))]))
  refine own_go (fun t_ k => XS.iconst X0.here hx rfl (hb hby d1_16) k) ?_
  show WP p e below _ (s₁.setTop (mkF m 17 #[.val (.int (2 : Int32)), .val (.int p2), .val (.int p3)] [(.int (1 : Int32)), (.int (2 : Int32))]))
  have hc17_2 : ¬ ((2 : Int32) = (1 : Int32)) := by decide
  refine own_go (fun t_ k => XS.icmpYes X0.here hx rfl (pc0 := 17) (pc' := 36) rfl (hb hby d1_17) rfl (feq hc17_2).2 (by decide) (by decide) k) ?_
  show WP p e below _ (s₁.setTop (mkF m 36 #[.val (.int (2 : Int32)), .val (.int p2), .val (.int p3)] []))
  obtain ⟨T3, h3, X3, e3, E3, A3, D3, -, st3⟩ := newO X0 hx hZ hown (hw _ (List.mem_of_getElem? (i := 4) rfl)) (hw _ (List.mem_of_getElem? (i := 5) rfl)) (hw _ (List.mem_of_getElem? (i := 6) rfl)) e0 (g := (mkF m 36 #[.val (.int (2 : Int32)), .val (.int p2), .val (.int p3)] [])) rfl (hb hby d1_36) (by decide) (by decide)
  obtain ⟨b3, g3⟩ : ∃ z, z = Array.size h0 := ⟨_, rfl⟩
  rw [← g3] at A3 D3 st3
  refine own_go st3 ?_
  have g_b3 : n0 ≤ b3 := Nat.le_trans (Nat.le_trans Z0 (Keep.refl h0 []).1) (Nat.le_of_eq g3.symm)
  have sz_b3 : h0.size ≤ b3 := Nat.le_trans (Keep.refl h0 []).1 (Nat.le_of_eq g3.symm)
  have K3 : Keep h0 h3 [] := (Keep.refl h0 []).ext E3
  have F3_value : Fld Z h3 b3 "java/lang/String" "value" "[B" .null := D3 (Or.inr (hw _ (List.mem_of_getElem? (i := 20) rfl))) (ty := (.array .byte)) (by decide)
  have F3_coder : Fld Z h3 b3 "java/lang/String" "coder" "B" (.int (0 : Int32)) := D3 (Or.inr (hw _ (List.mem_of_getElem? (i := 21) rfl))) (ty := .byte) (by decide)
  show WP p e below _ (T3.setTop (mkF m 39 #[.val (.int (2 : Int32)), .val (.int p2), .val (.int p3)] [(.ref b3)]))
  refine own_go (fun t_ k => XS.dup X3.here hx rfl (hb hby d1_39) rfl rfl k) ?_
  show WP p e below _ (T3.setTop (mkF m 40 #[.val (.int (2 : Int32)), .val (.int p2), .val (.int p3)] [(.ref b3), (.ref b3)]))
  refine own_go (fun t_ k => XS.iconst X3.here hx rfl (hb hby d1_40) k) ?_
  show WP p e below _ (T3.setTop (mkF m 41 #[.val (.int (2 : Int32)), .val (.int p2), .val (.int p3)] [(.int (2 : Int32)), (.ref b3), (.ref b3)]))
  obtain ⟨T4, h4, k4, X4, e4, E4, A4, st4⟩ := newP X3 hx hZ (hw _ (List.mem_of_getElem? (i := 7) rfl)) e3 (g := (mkF m 41 #[.val (.int (2 : Int32)), .val (.int p2), .val (.int p3)] [(.int (2 : Int32)), (.ref b3), (.ref b3)])) rfl (hb hby d1_41) rfl (by decide) (cap := 2) (by decide) (by decide) (by decide) (by decide)
  obtain ⟨b4, g4⟩ : ∃ z, z = Array.size h3 := ⟨_, rfl⟩
  rw [← g4] at A4 st4
  refine own_go st4 ?_
  have g_b4 : n0 ≤ b4 := Nat.le_trans (Nat.le_trans Z0 K3.1) (Nat.le_of_eq g4.symm)
  have sz_b4 : h0.size ≤ b4 := Nat.le_trans K3.1 (Nat.le_of_eq g4.symm)
  have ne_b3_b4 : b3 ≠ b4 := Nat.ne_of_lt (Nat.lt_of_lt_of_le A3.lt (Nat.le_of_eq g4.symm))
  have K4 : Keep h0 h4 [] := K3.ext E4
  have V4 : Arv Z h4 b4 k4 .char (2 : Int32) [(.int (0 : Int32)), (.int (0 : Int32))] (.int (0 : Int32)) := (Arv.new A4 (by decide)).pad (pad_rep [] (.int (0 : Int32)) 2)
  show WP p e below _ (T4.setTop (mkF m 43 #[.val (.int (2 : Int32)), .val (.int p2), .val (.int p3)] [(.ref b4), (.ref b3), (.ref b3)]))
  refine own_go (fun t_ k => XS.dup X4.here hx rfl (hb hby d1_43) rfl rfl k) ?_
  show WP p e below _ (T4.setTop (mkF m 44 #[.val (.int (2 : Int32)), .val (.int p2), .val (.int p3)] [(.ref b4), (.ref b4), (.ref b3), (.ref b3)]))
  refine own_go (fun t_ k => XS.iconst X4.here hx rfl (hb hby d1_44) k) ?_
  show WP p e below _ (T4.setTop (mkF m 45 #[.val (.int (2 : Int32)), .val (.int p2), .val (.int p3)] [(.int (0 : Int32)), (.ref b4), (.ref b4), (.ref b3), (.ref b3)]))
  refine own_go (fun t_ k => XS.iloadN X4.here hx rfl (hb hby d1_45) rfl k) ?_
  show WP p e below _ (T4.setTop (mkF m 46 #[.val (.int (2 : Int32)), .val (.int p2), .val (.int p3)] [(.int p2), (.int (0 : Int32)), (.ref b4), (.ref b4), (.ref b3), (.ref b3)]))
  refine own_go (fun t_ k => XS.i2c X4.here hx rfl (hb hby d1_46) rfl k) ?_
  show WP p e below _ (T4.setTop (mkF m 47 #[.val (.int (2 : Int32)), .val (.int p2), .val (.int p3)] [(.int (p2.toUInt32.toUInt16.toUInt32.toInt32)), (.int (0 : Int32)), (.ref b4), (.ref b4), (.ref b3), (.ref b3)]))
  obtain ⟨cl5, Ar5, q5, S5, M5, H5, G5⟩ := id (V4)
  have hin5 : ¬ ((0 : Int32) < 0 ∨ cl5.slots.size ≤ ((0 : Int32)).toNatClampNeg) := inb_of S5 (⟨by decide, by decide⟩)
  obtain ⟨T6, h6, X6, e6, W6, st6⟩ := stC X4 hx hZ e4 Ar5 (j := (0 : Int32)) hin5 (g := (mkF m 47 #[.val (.int (2 : Int32)), .val (.int p2), .val (.int p3)] [(.int (p2.toUInt32.toUInt16.toUInt32.toInt32)), (.int (0 : Int32)), (.ref b4), (.ref b4), (.ref b3), (.ref b3)])) rfl rfl (hb hby d1_47)
  refine own_go st6 ?_
  have V6 : Arv Z h6 b4 k4 .char (2 : Int32) [(.int ((p2.toUInt32.toUInt16.toUInt32.toInt32).toUInt32.toUInt16.toUInt32.toInt32)), (.int (0 : Int32))] (.int (0 : Int32)) := Arv.set Ar5 q5 S5 M5 H5 G5 (fits_nar_char _) W6 0 rfl (Nat.le_of_ble_eq_true rfl)
  have N6 := Fr.snoc X6 N0 g_b4
  have K6 : Keep h0 h6 [] := K4.wr W6 (Or.inr sz_b4)
  show WP p e below _ (T6.setTop (mkF m 48 #[.val (.int (2 : Int32)), .val (.int p2), .val (.int p3)] [(.ref b4), (.ref b3), (.ref b3)]))
  refine own_go (fun t_ k => XS.dup X6.here hx rfl (hb hby d1_48) rfl rfl k) ?_
  show WP p e below _ (T6.setTop (mkF m 49 #[.val (.int (2 : Int32)), .val (.int p2), .val (.int p3)] [(.ref b4), (.ref b4), (.ref b3), (.ref b3)]))
  refine own_go (fun t_ k => XS.iconst X6.here hx rfl (hb hby d1_49) k) ?_
  show WP p e below _ (T6.setTop (mkF m 50 #[.val (.int (2 : Int32)), .val (.int p2), .val (.int p3)] [(.int (1 : Int32)), (.ref b4), (.ref b4), (.ref b3), (.ref b3)]))
  refine own_go (fun t_ k => XS.iloadN X6.here hx rfl (hb hby d1_50) rfl k) ?_
  show WP p e below _ (T6.setTop (mkF m 51 #[.val (.int (2 : Int32)), .val (.int p2), .val (.int p3)] [(.int p3), (.int (1 : Int32)), (.ref b4), (.ref b4), (.ref b3), (.ref b3)]))
  refine own_go (fun t_ k => XS.i2c X6.here hx rfl (hb hby d1_51) rfl k) ?_
  show WP p e below _ (T6.setTop (mkF m 52 #[.val (.int (2 : Int32)), .val (.int p2), .val (.int p3)] [(.int (p3.toUInt32.toUInt16.toUInt32.toInt32)), (.int (1 : Int32)), (.ref b4), (.ref b4), (.ref b3), (.ref b3)]))
  obtain ⟨cl7, Ar7, q7, S7, M7, H7, G7⟩ := id (V6)
  have hin7 : ¬ ((1 : Int32) < 0 ∨ cl7.slots.size ≤ ((1 : Int32)).toNatClampNeg) := inb_of S7 (⟨by decide, by decide⟩)
  obtain ⟨T8, h8, X8, e8, W8, st8⟩ := stC X6 hx hZ e6 Ar7 (j := (1 : Int32)) hin7 (g := (mkF m 52 #[.val (.int (2 : Int32)), .val (.int p2), .val (.int p3)] [(.int (p3.toUInt32.toUInt16.toUInt32.toInt32)), (.int (1 : Int32)), (.ref b4), (.ref b4), (.ref b3), (.ref b3)])) rfl rfl (hb hby d1_52)
  refine own_go st8 ?_
  have V8 : Arv Z h8 b4 k4 .char (2 : Int32) [(.int ((p2.toUInt32.toUInt16.toUInt32.toInt32).toUInt32.toUInt16.toUInt32.toInt32)), (.int ((p3.toUInt32.toUInt16.toUInt32.toInt32).toUInt32.toUInt16.toUInt32.toInt32))] (.int (0 : Int32)) := Arv.set Ar7 q7 S7 M7 H7 G7 (fits_nar_char _) W8 1 rfl (Nat.le_of_ble_eq_true rfl)
  have N8 := Fr.snoc X8 N6 g_b4
  have K8 : Keep h0 h8 [] := K6.wr W8 (Or.inr sz_b4)
  show WP p e below _ (T8.setTop (mkF m 53 #[.val (.int (2 : Int32)), .val (.int p2), .val (.int p3)] [(.ref b4), (.ref b3), (.ref b3)]))
  obtain ⟨_, T9, Lc9, X9, hQ9, st9⟩ := own_un X8 1 2 (X8.specialBack hx (y := (⟨"java/lang/String", "<init>", "([C)V"⟩ : MethodName)) rfl hown (mvT hZ (hw _ (List.mem_of_getElem? (i := 8) rfl))) (mvT hZ (hw _ (List.mem_of_getElem? (i := 9) rfl))) (mvT hZ (hw _ (List.mem_of_getElem? (i := 10) rfl))) (by decide) (backOf (W := 1) (rmS2_2 l Z a0 hw [] b3 b4 k4 cs ((p2.toUInt32.toUInt16.toUInt32.toInt32).toUInt32.toUInt16.toUInt32.toInt32) ((p3.toUInt32.toUInt16.toUInt32.toInt32).toUInt32.toUInt16.toUInt32.toInt32) h8 n0 (Nat.le_trans Z0 K8.1) g_b3 (((A3.ext E4).wr W6).wr W8) (((F3_value.ext E4).other W6 (Or.inl ne_b3_b4)).other W8 (Or.inl ne_b3_b4)) (((F3_coder.ext E4).other W6 (Or.inl ne_b3_b4)).other W8 (Or.inl ne_b3_b4)) V8 ((((S_c.ext E3).ext E4).wr W6).wr W8) ne_b3_b4 hcs (own_ch2 hb2) (own_ch2 hb3)) hZ (hw _ (List.mem_of_getElem? (i := 10) rfl)) (hw _ (List.mem_of_getElem? (i := 6) rfl)) (by decide) (by decide)) (g := (mkF m 53 #[.val (.int (2 : Int32)), .val (.int p2), .val (.int p3)] [(.ref b4), (.ref b3), (.ref b3)])) rfl (by rw [hml]; rfl) (Steps.refl _) (a := b3) (argsL := [(.ref b4)]) (rest := [(.ref b3)]) (lenOf pd_4 rfl) rfl (by show 2 * 0 + _ ≤ _; exact Nat.le_of_eq rfl) (hb hby d1_53) (fun _ _ => ⟨rfl, e8, (by decide : 2 + 1 ≤ _), (by decide : 6 + 2 ≤ _)⟩))
  dsimp only [Pt.U] at st9
  have er9 : T9.heap = T9.heap := rfl
  obtain ⟨b9_0, kb9_0, rfl, N9q, K9c, sz9_0, F9c0, F9c1, F9c2, F9c3⟩ := hQ9
  have N9 := Fr.app N8 N9q
  replace X9 : Stand p l e ({ frames := 4, cells := 4, slots := 8, locals := 66 } : Room) s m _ below meth c T9 _ 3 8 := X9
  refine own_go (fun t_ k => st9.trans k) ?_
  have Sk9_0 := own_sta_k ((((S_c.ext E3).ext E4).wr W6).wr W8) K9c (own_plS (own_plE (((A3.ext E4).wr W6).wr W8)) (own_pl0))
  have g_b9_0 : n0 ≤ b9_0 := Nat.le_trans (Nat.le_trans Z0 K8.1) sz9_0
  have szz_b9_0 : h0.size ≤ b9_0 := Nat.le_trans K8.1 sz9_0
  have ne_b3_b9_0 : b3 ≠ b9_0 := Nat.ne_of_lt (Nat.lt_of_lt_of_le (((A3.ext E4).wr W6).wr W8).lt sz9_0)
  have ne_b4_b9_0 : b4 ≠ b9_0 := Nat.ne_of_lt (Nat.lt_of_lt_of_le V8.lt sz9_0)
  have K9 : Keep h0 T9.heap [] := K8.trans K9c (allS (Or.inr sz_b3) all0)
  show WP p e below _ (T9.setTop (mkF m 56 #[.val (.int (2 : Int32)), .val (.int p2), .val (.int p3)] [(.ref b3)]))
  exact own_retA X9 hx Bd.notSynchronized Bd.returns rfl rfl (hb hby d1_56) (by rw [er9]; exact ⟨b3, b9_0, kb9_0, (2 : Int32), _, rfl, N9, K9, sz_b3, F9c0, F9c2, F9c1, F9c3, ne_b3_b9_0, Or.inr (Or.inr ⟨rfl, rfl, rfl⟩)⟩) (by decide) (by decide)
theorem rmStr (l : Launch) (Z : State) (a0 : Array Value) (hw : ∀ d ∈ tables_1, d.before a0 Z = true) (ws : List Jvm.Cond) (p1 p2 p3 : Int32) (cs : Int32) (h0 : Heap) (n0 : Nat) (Z0 : n0 ≤ h0.size) (S_c : Sta Z h0 "java/lang/String" "COMPACT_STRINGS" "Z" (.int cs)) (hcs : ¬ cs = (0 : Int32)) (hb2 : 0 ≤ p2.toInt ∧ p2.toInt ≤ 255) (hb3 : 0 ≤ p3.toInt ∧ p3.toInt ≤ 255) (hp : p1 = (0 : Int32) ∨ p1 = (1 : Int32) ∨ p1 = (2 : Int32)) :
    MetFree l (⟨"com/example/covenant_atlas/covenantatlas/model/OutlineEntryEqualsPinLaw", "str", "(III)Ljava/lang/String;"⟩ : MethodName) (head1 (Jvm.Cond.code (⟨"com/example/covenant_atlas/covenantatlas/model/OutlineEntryEqualsPinLaw", "str", "(III)Ljava/lang/String;"⟩ : MethodName) method_3_code 3 (some (.object "java/lang/String")) :: ws) ({ frames := 4, cells := 4, slots := 8, locals := 66 } : Room)) (fun a U => a = #[(.int p1), (.int p2), (.int p3)] ∧ Z.Warmed39 U.vm ∧ U.heap = h0 ∧ CHv Z EL0 U.vm h0) (fun _ _ _ _ _ => True) (fun _ U o U' => ∃ v L, o = .returned v ∧ (QStr Z p1 p2 p3 h0 n0) v U'.heap L ∧ CHr Z EL0 U.vm U.heap U'.vm U'.heap ∧ ReturnedEndW U o U' L ({ frames := 4, cells := 4, slots := 8, locals := 66 } : Room).cells ({ frames := 4, cells := 4, slots := 8, locals := 66 } : Room).slots) := by
  rcases hp with rfl | rfl | rfl
  · exact rmStr_0 l Z a0 hw ws p2 p3 cs h0 n0 Z0 S_c hcs hb2 hb3
  · exact own_metH (rmStr_1 l Z a0 hw ws p2 p3 cs h0 n0 Z0 S_c hcs hb2 hb3) (own_EW hw) (by rintro _ _ _ ⟨_, _, _, _, _, _, _, K, _⟩; exact K)
  · exact own_metH (rmStr_2 l Z a0 hw ws p2 p3 cs h0 n0 Z0 S_c hcs hb2 hb3) (own_EW hw) (by rintro _ _ _ ⟨_, _, _, _, _, _, _, K, _⟩; exact K)
def kf (p1 : Int32) (kq0 kq1 kq2 kq3 kq4 : Addr) : Addr := if p1 = (0 : Int32) then kq0 else if p1 = (1 : Int32) then kq1 else if p1 = (2 : Int32) then kq2 else if p1 = (3 : Int32) then kq3 else kq4
theorem own_kfE {Z : State} {h : Heap} {p1 : Int32} {kq0 kq1 kq2 kq3 kq4 r : Addr} {C : String} (e : kf p1 kq0 kq1 kq2 kq3 kq4 = r) (h0 : Exa Z h kq0 C) (h1 : Exa Z h kq1 C) (h2 : Exa Z h kq2 C) (h3 : Exa Z h kq3 C) (h4 : Exa Z h kq4 C) : Exa Z h r C := by
  rw [← e, kf]; (repeat' split) <;> assumption
def KD (kq0 kq1 kq2 kq3 kq4 : Addr) : Prop := (kq0 ≠ kq1 ∧ kq0 ≠ kq2 ∧ kq0 ≠ kq3 ∧ kq0 ≠ kq4) ∧ (kq1 ≠ kq2 ∧ kq1 ≠ kq3 ∧ kq1 ≠ kq4) ∧ (kq2 ≠ kq3 ∧ kq2 ≠ kq4) ∧ kq3 ≠ kq4
theorem own_kfI {p q : Int32} {kq0 kq1 kq2 kq3 kq4 a b : Addr} (D : KD kq0 kq1 kq2 kq3 kq4) (hp : 0 ≤ p.toInt ∧ p.toInt ≤ 4) (hq : 0 ≤ q.toInt ∧ q.toInt ≤ 4) (ea : kf p kq0 kq1 kq2 kq3 kq4 = a) (eb : kf q kq0 kq1 kq2 kq3 kq4 = b) : a = b ↔ p = q := by
  have c : ∀ x : Int32, 0 ≤ x.toInt ∧ x.toInt ≤ 4 → x = (0 : Int32) ∨ x = (1 : Int32) ∨ x = (2 : Int32) ∨ x = (3 : Int32) ∨ x = (4 : Int32) := fun x hx => by
    simp only [← Int32.toInt_inj, show (0 : Int32).toInt = 0 from by decide, show (1 : Int32).toInt = 1 from by decide, show (2 : Int32).toInt = 2 from by decide, show (3 : Int32).toInt = 3 from by decide, show (4 : Int32).toInt = 4 from by decide]
    omega
  obtain ⟨⟨d1, d2, d3, d4⟩, ⟨d5, d6, d7⟩, ⟨d8, d9⟩, d10⟩ := D
  rw [← ea, ← eb]
  rcases c p hp with rfl | rfl | rfl | rfl | rfl <;> rcases c q hq with rfl | rfl | rfl | rfl | rfl <;> simp [kf, d1, d2, d3, d4, d5, d6, d7, d8, d9, d10, Ne.symm d1, Ne.symm d2, Ne.symm d3, Ne.symm d4, Ne.symm d5, Ne.symm d6, Ne.symm d7, Ne.symm d8, Ne.symm d9, Ne.symm d10]
def Q_rm5 (Z : State) (p1 : Int32) (kq0 : Addr) (kq1 : Addr) (kq2 : Addr) (kq3 : Addr) (kq4 : Addr) (h0 : Heap) (n0 : Nat) (v : Option Value) (h : Heap) (L : List Loc) : Prop := v = some (.ref (kf p1 kq0 kq1 kq2 kq3 kq4)) ∧ Fr n0 L ∧ h = h0
theorem d5_0 : decode method_2_code 0 = .ok (.iload_n 0, 1) := by decide +kernel
theorem d5_1 : decode method_2_code 1 = .ok (.ifCond .ne 7, 3) := by decide +kernel
theorem d5_4 : decode method_2_code 4 = .ok (.getstatic 7, 3) := by decide +kernel
theorem d5_7 : decode method_2_code 7 = .ok (.areturn, 1) := by decide +kernel
theorem d5_8 : decode method_2_code 8 = .ok (.iload_n 0, 1) := by decide +kernel
theorem d5_9 : decode method_2_code 9 = .ok (.iconst 1, 1) := by decide +kernel
theorem d5_10 : decode method_2_code 10 = .ok (.if_icmp .ne 7, 3) := by decide +kernel
theorem d5_13 : decode method_2_code 13 = .ok (.getstatic 13, 3) := by decide +kernel
theorem d5_16 : decode method_2_code 16 = .ok (.areturn, 1) := by decide +kernel
theorem d5_17 : decode method_2_code 17 = .ok (.iload_n 0, 1) := by decide +kernel
theorem d5_18 : decode method_2_code 18 = .ok (.iconst 2, 1) := by decide +kernel
theorem d5_19 : decode method_2_code 19 = .ok (.if_icmp .ne 7, 3) := by decide +kernel
theorem d5_22 : decode method_2_code 22 = .ok (.getstatic 16, 3) := by decide +kernel
theorem d5_25 : decode method_2_code 25 = .ok (.areturn, 1) := by decide +kernel
theorem d5_26 : decode method_2_code 26 = .ok (.iload_n 0, 1) := by decide +kernel
theorem d5_27 : decode method_2_code 27 = .ok (.iconst 3, 1) := by decide +kernel
theorem d5_28 : decode method_2_code 28 = .ok (.if_icmp .ne 7, 3) := by decide +kernel
theorem d5_31 : decode method_2_code 31 = .ok (.getstatic 19, 3) := by decide +kernel
theorem d5_34 : decode method_2_code 34 = .ok (.areturn, 1) := by decide +kernel
theorem d5_35 : decode method_2_code 35 = .ok (.getstatic 22, 3) := by decide +kernel
theorem d5_38 : decode method_2_code 38 = .ok (.areturn, 1) := by decide +kernel
theorem ef_rm5 (m : MethodId) (x0 : Int32) : entryFrame m #[(.int x0)] 1 = mkF m 0 #[.val (.int x0)] [] := by first | (simp [entryFrame, mkF, argsToLocals, Value.category]; done) | rfl
set_option maxRecDepth 65536 in
set_option maxHeartbeats 40000000 in
theorem rm5 (l : Launch) (Z : State) (a0 : Array Value) (hw : ∀ d ∈ tables_1, d.before a0 Z = true) (ws : List Jvm.Cond) (p1 : Int32) (kq0 : Addr) (kq1 : Addr) (kq2 : Addr) (kq3 : Addr) (kq4 : Addr) (h0 : Heap) (n0 : Nat) (S0_ : Sta Z h0 "com/example/covenant_atlas/covenantatlas/model/PartKind" "ARTICLE" "Lcom/example/covenant_atlas/covenantatlas/model/PartKind;" (.ref kq0)) (S1_ : Sta Z h0 "com/example/covenant_atlas/covenantatlas/model/PartKind" "SECTION" "Lcom/example/covenant_atlas/covenantatlas/model/PartKind;" (.ref kq1)) (S2_ : Sta Z h0 "com/example/covenant_atlas/covenantatlas/model/PartKind" "ANNEX" "Lcom/example/covenant_atlas/covenantatlas/model/PartKind;" (.ref kq2)) (S3_ : Sta Z h0 "com/example/covenant_atlas/covenantatlas/model/PartKind" "SCHEDULE" "Lcom/example/covenant_atlas/covenantatlas/model/PartKind;" (.ref kq3)) (S4_ : Sta Z h0 "com/example/covenant_atlas/covenantatlas/model/PartKind" "EXHIBIT" "Lcom/example/covenant_atlas/covenantatlas/model/PartKind;" (.ref kq4)) :
    MetFree l (⟨"com/example/covenant_atlas/covenantatlas/model/OutlineEntryEqualsPinLaw", "kindOf", "(I)Lcom/example/covenant_atlas/covenantatlas/model/PartKind;"⟩ : MethodName) (head1 (Jvm.Cond.code (⟨"com/example/covenant_atlas/covenantatlas/model/OutlineEntryEqualsPinLaw", "kindOf", "(I)Lcom/example/covenant_atlas/covenantatlas/model/PartKind;"⟩ : MethodName) method_2_code 1 (some (.object "com/example/covenant_atlas/covenantatlas/model/PartKind")) :: ws) ({ frames := 0, cells := 0, slots := 0, locals := 0 } : Room)) (fun a U => a = #[(.int p1)] ∧ Z.Warmed39 U.vm ∧ U.heap = h0) (fun _ _ _ _ _ => True) (fun _ U o U' => ∃ v L, o = .returned v ∧ (Q_rm5 Z p1 kq0 kq1 kq2 kq3 kq4 h0 n0) v U'.heap L ∧ FrameEnd U o U' L ({ frames := 0, cells := 0, slots := 0, locals := 0 } : Room).cells ({ frames := 0, cells := 0, slots := 0, locals := 0 } : Room).slots) := by
  refine MetFree.of_bodySF (plainFor_of_name pn_2) hisR ?_
  intro p e s m args below meth c s₁ Bd hml0 hP hK
  obtain ⟨rfl, hZ, hh⟩ := hP
  have hx := Bd.exec
  have hby := Bd.bytes
  have hml : c.maxLocals = 1 := hml0
  have hown : s.vm.findClass "com/example/covenant_atlas/covenantatlas/model/OutlineEntryEqualsPinLaw" = some m.cls := findClass_of_methodNamed Bd.named
  have hnm := (name_of_methodNamed Bd.named Bd.method).1
  have X0 : Stand p l e ({ frames := 0, cells := 0, slots := 0, locals := 0 } : Room) s m #[(.int p1)] below meth c s₁ [] 0 0 := Stand.of_body Bd
  have e0 : s₁.heap = h0 := by rw [← hh, Bd.state]; rfl
  have N0 := Fr.nil n0
  show WP p e below (GG (Q_rm5 Z p1 kq0 kq1 kq2 kq3 kq4 h0 n0) s ({ frames := 0, cells := 0, slots := 0, locals := 0 } : Room).cells ({ frames := 0, cells := 0, slots := 0, locals := 0 } : Room).slots) (s₁.setTop (entryFrame m #[(.int p1)] 1))
  rw [ef_rm5 m p1]
  show WP p e below _ (s₁.setTop (mkF m 0 #[.val (.int p1)] []))
  refine own_go (fun t_ k => XS.iloadN X0.here hx rfl (hb hby d5_0) rfl k) ?_
  show WP p e below _ (s₁.setTop (mkF m 1 #[.val (.int p1)] [(.int p1)]))
  by_cases hc1_1 : p1 = (0 : Int32)
  · refine own_go (fun t_ k => XS.ifNo X0.here hx rfl (hb hby d5_1) rfl ((if0 _ _).trans (teq hc1_1).2) k) ?_
    show WP p e below _ (s₁.setTop (mkF m 4 #[.val (.int p1)] []))
    obtain ⟨T2, X2, e2, st2⟩ := getS2 X0 hx hZ hown (host := "") (Or.inl (hw _ (List.mem_of_getElem? (i := 32) rfl))) Via.refl e0 S0_ (g := (mkF m 4 #[.val (.int p1)] [])) rfl (hb hby d5_4)
    refine own_go st2 ?_
    show WP p e below _ (T2.setTop (mkF m 7 #[.val (.int p1)] [(.ref kq0)]))
    exact own_retA X2 hx Bd.notSynchronized Bd.returns rfl rfl (hb hby d5_7) (⟨by rw [kf, if_pos hc1_1], N0, e2⟩) (by decide) (by decide)
  · refine own_go (fun t_ k => XS.ifYes X0.here hx rfl (pc0 := 1) (pc' := 8) rfl (hb hby d5_1) rfl ((if0 _ _).trans (feq hc1_1).2) (by decide) (by decide) k) ?_
    show WP p e below _ (s₁.setTop (mkF m 8 #[.val (.int p1)] []))
    refine own_go (fun t_ k => XS.iloadN X0.here hx rfl (hb hby d5_8) rfl k) ?_
    show WP p e below _ (s₁.setTop (mkF m 9 #[.val (.int p1)] [(.int p1)]))
    refine own_go (fun t_ k => XS.iconst X0.here hx rfl (hb hby d5_9) k) ?_
    show WP p e below _ (s₁.setTop (mkF m 10 #[.val (.int p1)] [(.int (1 : Int32)), (.int p1)]))
    by_cases hc10_3 : p1 = (1 : Int32)
    · refine own_go (fun t_ k => XS.icmpNo X0.here hx rfl (hb hby d5_10) rfl (teq hc10_3).2 k) ?_
      show WP p e below _ (s₁.setTop (mkF m 13 #[.val (.int p1)] []))
      obtain ⟨T4, X4, e4, st4⟩ := getS2 X0 hx hZ hown (host := "") (Or.inl (hw _ (List.mem_of_getElem? (i := 81) rfl))) Via.refl e0 S1_ (g := (mkF m 13 #[.val (.int p1)] [])) rfl (hb hby d5_13)
      refine own_go st4 ?_
      show WP p e below _ (T4.setTop (mkF m 16 #[.val (.int p1)] [(.ref kq1)]))
      exact own_retA X4 hx Bd.notSynchronized Bd.returns rfl rfl (hb hby d5_16) (⟨by rw [kf, if_neg hc1_1, if_pos hc10_3], N0, e4⟩) (by decide) (by decide)
    · refine own_go (fun t_ k => XS.icmpYes X0.here hx rfl (pc0 := 10) (pc' := 17) rfl (hb hby d5_10) rfl (feq hc10_3).2 (by decide) (by decide) k) ?_
      show WP p e below _ (s₁.setTop (mkF m 17 #[.val (.int p1)] []))
      refine own_go (fun t_ k => XS.iloadN X0.here hx rfl (hb hby d5_17) rfl k) ?_
      show WP p e below _ (s₁.setTop (mkF m 18 #[.val (.int p1)] [(.int p1)]))
      refine own_go (fun t_ k => XS.iconst X0.here hx rfl (hb hby d5_18) k) ?_
      show WP p e below _ (s₁.setTop (mkF m 19 #[.val (.int p1)] [(.int (2 : Int32)), (.int p1)]))
      by_cases hc19_5 : p1 = (2 : Int32)
      · refine own_go (fun t_ k => XS.icmpNo X0.here hx rfl (hb hby d5_19) rfl (teq hc19_5).2 k) ?_
        show WP p e below _ (s₁.setTop (mkF m 22 #[.val (.int p1)] []))
        obtain ⟨T6, X6, e6, st6⟩ := getS2 X0 hx hZ hown (host := "") (Or.inl (hw _ (List.mem_of_getElem? (i := 79) rfl))) Via.refl e0 S2_ (g := (mkF m 22 #[.val (.int p1)] [])) rfl (hb hby d5_22)
        refine own_go st6 ?_
        show WP p e below _ (T6.setTop (mkF m 25 #[.val (.int p1)] [(.ref kq2)]))
        exact own_retA X6 hx Bd.notSynchronized Bd.returns rfl rfl (hb hby d5_25) (⟨by rw [kf, if_neg hc1_1, if_neg hc10_3, if_pos hc19_5], N0, e6⟩) (by decide) (by decide)
      · refine own_go (fun t_ k => XS.icmpYes X0.here hx rfl (pc0 := 19) (pc' := 26) rfl (hb hby d5_19) rfl (feq hc19_5).2 (by decide) (by decide) k) ?_
        show WP p e below _ (s₁.setTop (mkF m 26 #[.val (.int p1)] []))
        refine own_go (fun t_ k => XS.iloadN X0.here hx rfl (hb hby d5_26) rfl k) ?_
        show WP p e below _ (s₁.setTop (mkF m 27 #[.val (.int p1)] [(.int p1)]))
        refine own_go (fun t_ k => XS.iconst X0.here hx rfl (hb hby d5_27) k) ?_
        show WP p e below _ (s₁.setTop (mkF m 28 #[.val (.int p1)] [(.int (3 : Int32)), (.int p1)]))
        by_cases hc28_7 : p1 = (3 : Int32)
        · refine own_go (fun t_ k => XS.icmpNo X0.here hx rfl (hb hby d5_28) rfl (teq hc28_7).2 k) ?_
          show WP p e below _ (s₁.setTop (mkF m 31 #[.val (.int p1)] []))
          obtain ⟨T8, X8, e8, st8⟩ := getS2 X0 hx hZ hown (host := "") (Or.inl (hw _ (List.mem_of_getElem? (i := 95) rfl))) Via.refl e0 S3_ (g := (mkF m 31 #[.val (.int p1)] [])) rfl (hb hby d5_31)
          refine own_go st8 ?_
          show WP p e below _ (T8.setTop (mkF m 34 #[.val (.int p1)] [(.ref kq3)]))
          exact own_retA X8 hx Bd.notSynchronized Bd.returns rfl rfl (hb hby d5_34) (⟨by rw [kf, if_neg hc1_1, if_neg hc10_3, if_neg hc19_5, if_pos hc28_7], N0, e8⟩) (by decide) (by decide)
        · refine own_go (fun t_ k => XS.icmpYes X0.here hx rfl (pc0 := 28) (pc' := 35) rfl (hb hby d5_28) rfl (feq hc28_7).2 (by decide) (by decide) k) ?_
          show WP p e below _ (s₁.setTop (mkF m 35 #[.val (.int p1)] []))
          obtain ⟨T9, X9, e9, st9⟩ := getS2 X0 hx hZ hown (host := "") (Or.inl (hw _ (List.mem_of_getElem? (i := 93) rfl))) Via.refl e0 S4_ (g := (mkF m 35 #[.val (.int p1)] [])) rfl (hb hby d5_35)
          refine own_go st9 ?_
          show WP p e below _ (T9.setTop (mkF m 38 #[.val (.int p1)] [(.ref kq4)]))
          exact own_retA X9 hx Bd.notSynchronized Bd.returns rfl rfl (hb hby d5_38) (⟨by rw [kf, if_neg hc1_1, if_neg hc10_3, if_neg hc19_5, if_neg hc28_7], N0, e9⟩) (by decide) (by decide)
def Q_rmNN (Z : State) (a1 : Addr) (h0 : Heap) (n0 : Nat) (v : Option Value) (h : Heap) (L : List Loc) : Prop := v = some (.ref a1) ∧ Fr n0 L ∧ h = h0
theorem d7_0 : decode jdk_31_method_10_code 0 = .ok (.aload_n 0, 1) := by decide +kernel
theorem d7_1 : decode jdk_31_method_10_code 1 = .ok (.ifnonnull 11, 3) := by decide +kernel
theorem d7_12 : decode jdk_31_method_10_code 12 = .ok (.aload_n 0, 1) := by decide +kernel
theorem d7_13 : decode jdk_31_method_10_code 13 = .ok (.areturn, 1) := by decide +kernel
theorem pn_3 : plainName "java/util/Objects" = true := by first | (simp [plainName, overriddenIn]; done) | decide +kernel
theorem ef_rmNN (m : MethodId) (x0 : Addr) : entryFrame m #[(.ref x0)] 1 = mkF m 0 #[.val (.ref x0)] [] := by first | (simp [entryFrame, mkF, argsToLocals, Value.category]; done) | rfl
set_option maxRecDepth 65536 in
set_option maxHeartbeats 40000000 in
theorem rmNN (l : Launch) (Z : State) (a0 : Array Value) (hw : ∀ d ∈ tables_1, d.before a0 Z = true) (ws : List Jvm.Cond) (a1 : Addr) (h0 : Heap) (n0 : Nat) :
    MetFree l (⟨"java/util/Objects", "requireNonNull", "(Ljava/lang/Object;)Ljava/lang/Object;"⟩ : MethodName) (head1 (Jvm.Cond.code (⟨"java/util/Objects", "requireNonNull", "(Ljava/lang/Object;)Ljava/lang/Object;"⟩ : MethodName) jdk_31_method_10_code 1 (some (.object "java/lang/Object")) :: ws) ({ frames := 0, cells := 0, slots := 0, locals := 0 } : Room)) (fun a U => a = #[(.ref a1)] ∧ Z.Warmed39 U.vm ∧ U.heap = h0) (fun _ _ _ _ _ => True) (fun _ U o U' => ∃ v L, o = .returned v ∧ (Q_rmNN Z a1 h0 n0) v U'.heap L ∧ FrameEnd U o U' L ({ frames := 0, cells := 0, slots := 0, locals := 0 } : Room).cells ({ frames := 0, cells := 0, slots := 0, locals := 0 } : Room).slots) := by
  refine MetFree.of_bodySF (plainFor_of_name pn_3) hisR ?_
  intro p e s m args below meth c s₁ Bd hml0 hP hK
  obtain ⟨rfl, hZ, hh⟩ := hP
  have hx := Bd.exec
  have hby := Bd.bytes
  have hml : c.maxLocals = 1 := hml0
  have hown : s.vm.findClass "java/util/Objects" = some m.cls := findClass_of_methodNamed Bd.named
  have hnm := (name_of_methodNamed Bd.named Bd.method).1
  have X0 : Stand p l e ({ frames := 0, cells := 0, slots := 0, locals := 0 } : Room) s m #[(.ref a1)] below meth c s₁ [] 0 0 := Stand.of_body Bd
  have e0 : s₁.heap = h0 := by rw [← hh, Bd.state]; rfl
  have N0 := Fr.nil n0
  show WP p e below (GG (Q_rmNN Z a1 h0 n0) s ({ frames := 0, cells := 0, slots := 0, locals := 0 } : Room).cells ({ frames := 0, cells := 0, slots := 0, locals := 0 } : Room).slots) (s₁.setTop (entryFrame m #[(.ref a1)] 1))
  rw [ef_rmNN m a1]
  show WP p e below _ (s₁.setTop (mkF m 0 #[.val (.ref a1)] []))
  refine own_go (fun t_ k => XS.aloadN X0.here hx rfl (hb hby d7_0) rfl rfl k) ?_
  show WP p e below _ (s₁.setTop (mkF m 1 #[.val (.ref a1)] [(.ref a1)]))
  refine own_go (fun t_ k => XS.ifnonnullYes X0.here hx rfl (pc0 := 1) (pc' := 12) rfl (hb hby d7_1) rfl (by decide) (by decide) k) ?_
  show WP p e below _ (s₁.setTop (mkF m 12 #[.val (.ref a1)] []))
  refine own_go (fun t_ k => XS.aloadN X0.here hx rfl (hb hby d7_12) rfl rfl k) ?_
  show WP p e below _ (s₁.setTop (mkF m 13 #[.val (.ref a1)] [(.ref a1)]))
  exact own_retA X0 hx Bd.notSynchronized Bd.returns rfl rfl (hb hby d7_13) (⟨rfl, N0, e0⟩) (by decide) (by decide)
def Q_rm6 (Z : State) (a1 : Addr) (a2 : Addr) (a3 : Addr) (a4 : Addr) (p5 : Int32) (p6 : Int32) (h0 : Heap) (n0 : Nat) (v : Option Value) (h : Heap) (L : List Loc) : Prop := v = none ∧ Fr n0 L ∧ Keep h0 h [a1] ∧ Exa Z h a1 "com/example/covenant_atlas/covenantatlas/model/OutlineEntry" ∧ Fld Z h a1 "com/example/covenant_atlas/covenantatlas/model/OutlineEntry" "kind" "Lcom/example/covenant_atlas/covenantatlas/model/PartKind;" (.ref a2) ∧ Fld Z h a1 "com/example/covenant_atlas/covenantatlas/model/OutlineEntry" "number" "Ljava/lang/String;" (.ref a3) ∧ Fld Z h a1 "com/example/covenant_atlas/covenantatlas/model/OutlineEntry" "heading" "Ljava/lang/String;" (.ref a4) ∧ Fld Z h a1 "com/example/covenant_atlas/covenantatlas/model/OutlineEntry" "line" "I" (.int p5) ∧ Fld Z h a1 "com/example/covenant_atlas/covenantatlas/model/OutlineEntry" "column" "I" (.int p6)
theorem pd_5 : parseMethodDescriptor "(Ljava/lang/Object;)Ljava/lang/Object;" = some ⟨[(.object "java/lang/Object")], some (.object "java/lang/Object")⟩ := by decide +kernel
theorem d6_0 : decode prog_34_method_1_code 0 = .ok (.aload_n 0, 1) := by decide +kernel
theorem d6_1 : decode prog_34_method_1_code 1 = .ok (.invokespecial 1, 3) := by decide +kernel
theorem d6_4 : decode prog_34_method_1_code 4 = .ok (.aload_n 0, 1) := by decide +kernel
theorem d6_5 : decode prog_34_method_1_code 5 = .ok (.aload_n 1, 1) := by decide +kernel
theorem d6_6 : decode prog_34_method_1_code 6 = .ok (.invokestatic 7, 3) := by decide +kernel
theorem d6_9 : decode prog_34_method_1_code 9 = .ok (.checkcast 13, 3) := by decide +kernel
theorem d6_12 : decode prog_34_method_1_code 12 = .ok (.putfield 15, 3) := by decide +kernel
theorem d6_15 : decode prog_34_method_1_code 15 = .ok (.aload_n 0, 1) := by decide +kernel
theorem d6_16 : decode prog_34_method_1_code 16 = .ok (.aload_n 2, 1) := by decide +kernel
theorem d6_17 : decode prog_34_method_1_code 17 = .ok (.invokestatic 7, 3) := by decide +kernel
theorem d6_20 : decode prog_34_method_1_code 20 = .ok (.checkcast 21, 3) := by decide +kernel
theorem d6_23 : decode prog_34_method_1_code 23 = .ok (.putfield 23, 3) := by decide +kernel
theorem d6_26 : decode prog_34_method_1_code 26 = .ok (.aload_n 0, 1) := by decide +kernel
theorem d6_27 : decode prog_34_method_1_code 27 = .ok (.aload_n 3, 1) := by decide +kernel
theorem d6_28 : decode prog_34_method_1_code 28 = .ok (.invokestatic 7, 3) := by decide +kernel
theorem d6_31 : decode prog_34_method_1_code 31 = .ok (.checkcast 21, 3) := by decide +kernel
theorem d6_34 : decode prog_34_method_1_code 34 = .ok (.putfield 27, 3) := by decide +kernel
theorem d6_37 : decode prog_34_method_1_code 37 = .ok (.aload_n 0, 1) := by decide +kernel
theorem d6_38 : decode prog_34_method_1_code 38 = .ok (.iload 4, 2) := by decide +kernel
theorem d6_40 : decode prog_34_method_1_code 40 = .ok (.putfield 30, 3) := by decide +kernel
theorem d6_43 : decode prog_34_method_1_code 43 = .ok (.aload_n 0, 1) := by decide +kernel
theorem d6_44 : decode prog_34_method_1_code 44 = .ok (.iload 5, 2) := by decide +kernel
theorem d6_46 : decode prog_34_method_1_code 46 = .ok (.putfield 34, 3) := by decide +kernel
theorem d6_49 : decode prog_34_method_1_code 49 = .ok (.return_, 1) := by decide +kernel
theorem pn_4 : plainName "com/example/covenant_atlas/covenantatlas/model/OutlineEntry" = true := by first | (simp [plainName, overriddenIn]; done) | decide +kernel
theorem ef_rm6 (m : MethodId) (x0 : Addr) (x1 : Addr) (x2 : Addr) (x3 : Addr) (x4 : Int32) (x5 : Int32) : entryFrame m #[(.ref x0), (.ref x1), (.ref x2), (.ref x3), (.int x4), (.int x5)] 6 = mkF m 0 #[.val (.ref x0), .val (.ref x1), .val (.ref x2), .val (.ref x3), .val (.int x4), .val (.int x5)] [] := by first | (simp [entryFrame, mkF, argsToLocals, Value.category]; done) | rfl
set_option maxRecDepth 65536 in
set_option maxHeartbeats 40000000 in
theorem rm6 (l : Launch) (Z : State) (a0 : Array Value) (hw : ∀ d ∈ tables_1, d.before a0 Z = true) (ws : List Jvm.Cond) (a1 : Addr) (a2 : Addr) (a3 : Addr) (a4 : Addr) (p5 : Int32) (p6 : Int32) (h0 : Heap) (n0 : Nat) (ge_a1 : n0 ≤ a1) (Pf0 : Exa Z h0 a1 "com/example/covenant_atlas/covenantatlas/model/OutlineEntry") (Pf1 : Fld Z h0 a1 "com/example/covenant_atlas/covenantatlas/model/OutlineEntry" "kind" "Lcom/example/covenant_atlas/covenantatlas/model/PartKind;" .null) (Pf2 : Fld Z h0 a1 "com/example/covenant_atlas/covenantatlas/model/OutlineEntry" "number" "Ljava/lang/String;" .null) (Pf3 : Fld Z h0 a1 "com/example/covenant_atlas/covenantatlas/model/OutlineEntry" "heading" "Ljava/lang/String;" .null) (Pf4 : Fld Z h0 a1 "com/example/covenant_atlas/covenantatlas/model/OutlineEntry" "line" "I" (.int (0 : Int32))) (Pf5 : Fld Z h0 a1 "com/example/covenant_atlas/covenantatlas/model/OutlineEntry" "column" "I" (.int (0 : Int32))) (Pf6 : Exa Z h0 a2 "com/example/covenant_atlas/covenantatlas/model/PartKind") (Pf7 : Exa Z h0 a3 "java/lang/String") (Pf8 : Exa Z h0 a4 "java/lang/String") (ne_a1_a2 : a1 ≠ a2) (ne_a1_a3 : a1 ≠ a3) (ne_a1_a4 : a1 ≠ a4) :
    MetFree l (⟨"com/example/covenant_atlas/covenantatlas/model/OutlineEntry", "<init>", "(Lcom/example/covenant_atlas/covenantatlas/model/PartKind;Ljava/lang/String;Ljava/lang/String;II)V"⟩ : MethodName) (head1 (Jvm.Cond.code (⟨"com/example/covenant_atlas/covenantatlas/model/OutlineEntry", "<init>", "(Lcom/example/covenant_atlas/covenantatlas/model/PartKind;Ljava/lang/String;Ljava/lang/String;II)V"⟩ : MethodName) prog_34_method_1_code 6 none :: ws) ({ frames := 1, cells := 0, slots := 0, locals := 13 } : Room)) (fun a U => a = #[(.ref a1), (.ref a2), (.ref a3), (.ref a4), (.int p5), (.int p6)] ∧ Z.Warmed39 U.vm ∧ U.heap = h0) (fun _ _ _ _ _ => True) (fun _ U o U' => ∃ v L, o = .returned v ∧ (Q_rm6 Z a1 a2 a3 a4 p5 p6 h0 n0) v U'.heap L ∧ FrameEnd U o U' L ({ frames := 1, cells := 0, slots := 0, locals := 13 } : Room).cells ({ frames := 1, cells := 0, slots := 0, locals := 13 } : Room).slots) := by
  refine MetFree.of_bodySF (plainFor_of_name pn_4) hisR ?_
  intro p e s m args below meth c s₁ Bd hml0 hP hK
  obtain ⟨rfl, hZ, hh⟩ := hP
  have hx := Bd.exec
  have hby := Bd.bytes
  have hml : c.maxLocals = 6 := hml0
  have hown : s.vm.findClass "com/example/covenant_atlas/covenantatlas/model/OutlineEntry" = some m.cls := findClass_of_methodNamed Bd.named
  have hnm := (name_of_methodNamed Bd.named Bd.method).1
  have X0 : Stand p l e ({ frames := 1, cells := 0, slots := 0, locals := 13 } : Room) s m #[(.ref a1), (.ref a2), (.ref a3), (.ref a4), (.int p5), (.int p6)] below meth c s₁ [] 0 0 := Stand.of_body Bd
  have e0 : s₁.heap = h0 := by rw [← hh, Bd.state]; rfl
  have N0 := Fr.nil n0
  show WP p e below (GG (Q_rm6 Z a1 a2 a3 a4 p5 p6 h0 n0) s ({ frames := 1, cells := 0, slots := 0, locals := 13 } : Room).cells ({ frames := 1, cells := 0, slots := 0, locals := 13 } : Room).slots) (s₁.setTop (entryFrame m #[(.ref a1), (.ref a2), (.ref a3), (.ref a4), (.int p5), (.int p6)] 6))
  rw [ef_rm6 m a1 a2 a3 a4 p5 p6]
  show WP p e below _ (s₁.setTop (mkF m 0 #[.val (.ref a1), .val (.ref a2), .val (.ref a3), .val (.ref a4), .val (.int p5), .val (.int p6)] []))
  refine own_go (fun t_ k => XS.aloadN X0.here hx rfl (hb hby d6_0) rfl rfl k) ?_
  show WP p e below _ (s₁.setTop (mkF m 1 #[.val (.ref a1), .val (.ref a2), .val (.ref a3), .val (.ref a4), .val (.int p5), .val (.int p6)] [(.ref a1)]))
  obtain ⟨T1, X1, e1, st1⟩ := initO X0 hx hZ hown (hw _ (List.mem_of_getElem? (i := 38) rfl)) (hw _ (List.mem_of_getElem? (i := 16) rfl)) (hw _ (List.mem_of_getElem? (i := 17) rfl)) e0 (g := (mkF m 1 #[.val (.ref a1), .val (.ref a2), .val (.ref a3), .val (.ref a4), .val (.int p5), .val (.int p6)] [(.ref a1)])) rfl (by rw [hml]; rfl) rfl (hb hby d6_1) (by decide) (W := 0) (by show 2 * 0 + _ ≤ _; exact Nat.le_of_eq rfl) (by decide)
  refine own_go st1 ?_
  show WP p e below _ (T1.setTop (mkF m 4 #[.val (.ref a1), .val (.ref a2), .val (.ref a3), .val (.ref a4), .val (.int p5), .val (.int p6)] []))
  refine own_go (fun t_ k => XS.aloadN X1.here hx rfl (hb hby d6_4) rfl rfl k) ?_
  show WP p e below _ (T1.setTop (mkF m 5 #[.val (.ref a1), .val (.ref a2), .val (.ref a3), .val (.ref a4), .val (.int p5), .val (.int p6)] [(.ref a1)]))
  refine own_go (fun t_ k => XS.aloadN X1.here hx rfl (hb hby d6_5) rfl rfl k) ?_
  show WP p e below _ (T1.setTop (mkF m 6 #[.val (.ref a1), .val (.ref a2), .val (.ref a3), .val (.ref a4), .val (.int p5), .val (.int p6)] [(.ref a2), (.ref a1)]))
  obtain ⟨_, T2, Lc2, X2, hQ2, st2⟩ := own_un X1 0 0 (Jvm.LawKit.callS X1 hx (y := (⟨"java/util/Objects", "requireNonNull", "(Ljava/lang/Object;)Ljava/lang/Object;"⟩ : MethodName)) hown (mvT hZ (hw _ (List.mem_of_getElem? (i := 39) rfl))) (mvT hZ (hw _ (List.mem_of_getElem? (i := 40) rfl))) (mvT hZ (hw _ (List.mem_of_getElem? (i := 41) rfl))) (mvT hZ (hw _ (List.mem_of_getElem? (i := 42) rfl))) (by decide) (backOf (W := 1) (rmNN l Z a0 hw [] a2 h0 n0 ) hZ (hw _ (List.mem_of_getElem? (i := 42) rfl)) (hw _ (List.mem_of_getElem? (i := 41) rfl)) (by decide) (by decide)) (g := (mkF m 6 #[.val (.ref a1), .val (.ref a2), .val (.ref a3), .val (.ref a4), .val (.int p5), .val (.int p6)] [(.ref a2), (.ref a1)])) rfl (by rw [hml]; rfl) (argsL := [(.ref a2)]) (rest := [(.ref a1)]) (lenOf pd_5 rfl) rfl (by show 2 * 0 + _ ≤ _; exact Nat.le_of_eq rfl) (hb hby d6_6) (fun _ _ => ⟨rfl, e1, (by decide : 0 + 0 ≤ _), (by decide : 0 + 0 ≤ _)⟩))
  dsimp only [Pt.U] at st2
  have er2 : T2.heap = T2.heap := rfl
  obtain ⟨rfl, N2q, e2⟩ := hQ2
  have N2 := Fr.app N0 N2q
  replace X2 : Stand p l e ({ frames := 1, cells := 0, slots := 0, locals := 13 } : Room) s m _ below meth c T2 _ 0 0 := X2
  refine own_go st2 ?_
  show WP p e below _ (T2.setTop (mkF m 9 #[.val (.ref a1), .val (.ref a2), .val (.ref a3), .val (.ref a4), .val (.int p5), .val (.int p6)] [(.ref a2), (.ref a1)]))
  obtain ⟨T3, X3, e3, st3⟩ := castY X2 hx hZ hown (hw _ (List.mem_of_getElem? (i := 43) rfl)) e2 (Ins.of_exa Pf6 (hw _ (List.mem_of_getElem? (i := 44) rfl))) (g := (mkF m 9 #[.val (.ref a1), .val (.ref a2), .val (.ref a3), .val (.ref a4), .val (.int p5), .val (.int p6)] [(.ref a2), (.ref a1)])) rfl rfl (hb hby d6_9)
  refine own_go st3 ?_
  show WP p e below _ (T3.setTop (mkF m 12 #[.val (.ref a1), .val (.ref a2), .val (.ref a3), .val (.ref a4), .val (.int p5), .val (.int p6)] [(.ref a2), (.ref a1)]))
  obtain ⟨T4, h4, X4, e4, W4, st4⟩ := putF X3 hx hZ hown (host := "") (Or.inl (hw _ (List.mem_of_getElem? (i := 45) rfl))) Via.refl e3 Pf1 Pf0 (Or.inr ⟨(hw _ (List.mem_of_getElem? (i := 46) rfl)), rfl, hnm⟩) (hw _ (List.mem_of_getElem? (i := 27) rfl)) (ty := (.object "com/example/covenant_atlas/covenantatlas/model/PartKind")) (by decide) rfl rfl (g := (mkF m 12 #[.val (.ref a1), .val (.ref a2), .val (.ref a3), .val (.ref a4), .val (.int p5), .val (.int p6)] [(.ref a2), (.ref a1)])) rfl rfl (hb hby d6_12)
  refine own_go st4 ?_
  have Fw4 := Pf1.same W4
  have N4 := Fr.snoc X4 N2 ge_a1
  have K4 : Keep h0 h4 [a1] := (Keep.refl h0 [a1]).wr W4 (Or.inl (List.mem_of_getElem? (i := 0) rfl))
  show WP p e below _ (T4.setTop (mkF m 15 #[.val (.ref a1), .val (.ref a2), .val (.ref a3), .val (.ref a4), .val (.int p5), .val (.int p6)] []))
  refine own_go (fun t_ k => XS.aloadN X4.here hx rfl (hb hby d6_15) rfl rfl k) ?_
  show WP p e below _ (T4.setTop (mkF m 16 #[.val (.ref a1), .val (.ref a2), .val (.ref a3), .val (.ref a4), .val (.int p5), .val (.int p6)] [(.ref a1)]))
  refine own_go (fun t_ k => XS.aloadN X4.here hx rfl (hb hby d6_16) rfl rfl k) ?_
  show WP p e below _ (T4.setTop (mkF m 17 #[.val (.ref a1), .val (.ref a2), .val (.ref a3), .val (.ref a4), .val (.int p5), .val (.int p6)] [(.ref a3), (.ref a1)]))
  obtain ⟨_, T5, Lc5, X5, hQ5, st5⟩ := own_un X4 0 0 (Jvm.LawKit.callS X4 hx (y := (⟨"java/util/Objects", "requireNonNull", "(Ljava/lang/Object;)Ljava/lang/Object;"⟩ : MethodName)) hown (mvT hZ (hw _ (List.mem_of_getElem? (i := 39) rfl))) (mvT hZ (hw _ (List.mem_of_getElem? (i := 40) rfl))) (mvT hZ (hw _ (List.mem_of_getElem? (i := 41) rfl))) (mvT hZ (hw _ (List.mem_of_getElem? (i := 42) rfl))) (by decide) (backOf (W := 1) (rmNN l Z a0 hw [] a3 h4 n0 ) hZ (hw _ (List.mem_of_getElem? (i := 42) rfl)) (hw _ (List.mem_of_getElem? (i := 41) rfl)) (by decide) (by decide)) (g := (mkF m 17 #[.val (.ref a1), .val (.ref a2), .val (.ref a3), .val (.ref a4), .val (.int p5), .val (.int p6)] [(.ref a3), (.ref a1)])) rfl (by rw [hml]; rfl) (argsL := [(.ref a3)]) (rest := [(.ref a1)]) (lenOf pd_5 rfl) rfl (by show 2 * 0 + _ ≤ _; exact Nat.le_of_eq rfl) (hb hby d6_17) (fun _ _ => ⟨rfl, e4, (by decide : 0 + 0 ≤ _), (by decide : 0 + 0 ≤ _)⟩))
  dsimp only [Pt.U] at st5
  have er5 : T5.heap = T5.heap := rfl
  obtain ⟨rfl, N5q, e5⟩ := hQ5
  have N5 := Fr.app N4 N5q
  replace X5 : Stand p l e ({ frames := 1, cells := 0, slots := 0, locals := 13 } : Room) s m _ below meth c T5 _ 0 0 := X5
  refine own_go st5 ?_
  show WP p e below _ (T5.setTop (mkF m 20 #[.val (.ref a1), .val (.ref a2), .val (.ref a3), .val (.ref a4), .val (.int p5), .val (.int p6)] [(.ref a3), (.ref a1)]))
  obtain ⟨T6, X6, e6, st6⟩ := castY X5 hx hZ hown (hw _ (List.mem_of_getElem? (i := 47) rfl)) e5 (Ins.of_exa (Pf7.wr W4) (hw _ (List.mem_of_getElem? (i := 13) rfl))) (g := (mkF m 20 #[.val (.ref a1), .val (.ref a2), .val (.ref a3), .val (.ref a4), .val (.int p5), .val (.int p6)] [(.ref a3), (.ref a1)])) rfl rfl (hb hby d6_20)
  refine own_go st6 ?_
  show WP p e below _ (T6.setTop (mkF m 23 #[.val (.ref a1), .val (.ref a2), .val (.ref a3), .val (.ref a4), .val (.int p5), .val (.int p6)] [(.ref a3), (.ref a1)]))
  obtain ⟨T7, h7, X7, e7, W7, st7⟩ := putF X6 hx hZ hown (host := "") (Or.inl (hw _ (List.mem_of_getElem? (i := 48) rfl))) Via.refl e6 (Pf2.other W4 (Or.inr (slot_ne (Or.inr (hw _ (List.mem_of_getElem? (i := 49) rfl))) (Or.inr (hw _ (List.mem_of_getElem? (i := 46) rfl))) (by decide) (t := (.object "java/lang/String")) (t' := (.object "com/example/covenant_atlas/covenantatlas/model/PartKind")) (by decide) (by decide)))) (Pf0.wr W4) (Or.inr ⟨(hw _ (List.mem_of_getElem? (i := 49) rfl)), rfl, hnm⟩) (hw _ (List.mem_of_getElem? (i := 27) rfl)) (ty := (.object "java/lang/String")) (by decide) rfl rfl (g := (mkF m 23 #[.val (.ref a1), .val (.ref a2), .val (.ref a3), .val (.ref a4), .val (.int p5), .val (.int p6)] [(.ref a3), (.ref a1)])) rfl rfl (hb hby d6_23)
  refine own_go st7 ?_
  have Fw7 := (Pf2.other W4 (Or.inr (slot_ne (Or.inr (hw _ (List.mem_of_getElem? (i := 49) rfl))) (Or.inr (hw _ (List.mem_of_getElem? (i := 46) rfl))) (by decide) (t := (.object "java/lang/String")) (t' := (.object "com/example/covenant_atlas/covenantatlas/model/PartKind")) (by decide) (by decide)))).same W7
  have N7 := Fr.snoc X7 N5 ge_a1
  have K7 : Keep h0 h7 [a1] := K4.wr W7 (Or.inl (List.mem_of_getElem? (i := 0) rfl))
  show WP p e below _ (T7.setTop (mkF m 26 #[.val (.ref a1), .val (.ref a2), .val (.ref a3), .val (.ref a4), .val (.int p5), .val (.int p6)] []))
  refine own_go (fun t_ k => XS.aloadN X7.here hx rfl (hb hby d6_26) rfl rfl k) ?_
  show WP p e below _ (T7.setTop (mkF m 27 #[.val (.ref a1), .val (.ref a2), .val (.ref a3), .val (.ref a4), .val (.int p5), .val (.int p6)] [(.ref a1)]))
  refine own_go (fun t_ k => XS.aloadN X7.here hx rfl (hb hby d6_27) rfl rfl k) ?_
  show WP p e below _ (T7.setTop (mkF m 28 #[.val (.ref a1), .val (.ref a2), .val (.ref a3), .val (.ref a4), .val (.int p5), .val (.int p6)] [(.ref a4), (.ref a1)]))
  obtain ⟨_, T8, Lc8, X8, hQ8, st8⟩ := own_un X7 0 0 (Jvm.LawKit.callS X7 hx (y := (⟨"java/util/Objects", "requireNonNull", "(Ljava/lang/Object;)Ljava/lang/Object;"⟩ : MethodName)) hown (mvT hZ (hw _ (List.mem_of_getElem? (i := 39) rfl))) (mvT hZ (hw _ (List.mem_of_getElem? (i := 40) rfl))) (mvT hZ (hw _ (List.mem_of_getElem? (i := 41) rfl))) (mvT hZ (hw _ (List.mem_of_getElem? (i := 42) rfl))) (by decide) (backOf (W := 1) (rmNN l Z a0 hw [] a4 h7 n0 ) hZ (hw _ (List.mem_of_getElem? (i := 42) rfl)) (hw _ (List.mem_of_getElem? (i := 41) rfl)) (by decide) (by decide)) (g := (mkF m 28 #[.val (.ref a1), .val (.ref a2), .val (.ref a3), .val (.ref a4), .val (.int p5), .val (.int p6)] [(.ref a4), (.ref a1)])) rfl (by rw [hml]; rfl) (argsL := [(.ref a4)]) (rest := [(.ref a1)]) (lenOf pd_5 rfl) rfl (by show 2 * 0 + _ ≤ _; exact Nat.le_of_eq rfl) (hb hby d6_28) (fun _ _ => ⟨rfl, e7, (by decide : 0 + 0 ≤ _), (by decide : 0 + 0 ≤ _)⟩))
  dsimp only [Pt.U] at st8
  have er8 : T8.heap = T8.heap := rfl
  obtain ⟨rfl, N8q, e8⟩ := hQ8
  have N8 := Fr.app N7 N8q
  replace X8 : Stand p l e ({ frames := 1, cells := 0, slots := 0, locals := 13 } : Room) s m _ below meth c T8 _ 0 0 := X8
  refine own_go st8 ?_
  show WP p e below _ (T8.setTop (mkF m 31 #[.val (.ref a1), .val (.ref a2), .val (.ref a3), .val (.ref a4), .val (.int p5), .val (.int p6)] [(.ref a4), (.ref a1)]))
  obtain ⟨T9, X9, e9, st9⟩ := castY X8 hx hZ hown (hw _ (List.mem_of_getElem? (i := 47) rfl)) e8 (Ins.of_exa ((Pf8.wr W4).wr W7) (hw _ (List.mem_of_getElem? (i := 13) rfl))) (g := (mkF m 31 #[.val (.ref a1), .val (.ref a2), .val (.ref a3), .val (.ref a4), .val (.int p5), .val (.int p6)] [(.ref a4), (.ref a1)])) rfl rfl (hb hby d6_31)
  refine own_go st9 ?_
  show WP p e below _ (T9.setTop (mkF m 34 #[.val (.ref a1), .val (.ref a2), .val (.ref a3), .val (.ref a4), .val (.int p5), .val (.int p6)] [(.ref a4), (.ref a1)]))
  obtain ⟨T10, h10, X10, e10, W10, st10⟩ := putF X9 hx hZ hown (host := "") (Or.inl (hw _ (List.mem_of_getElem? (i := 50) rfl))) Via.refl e9 ((Pf3.other W4 (Or.inr (slot_ne (Or.inr (hw _ (List.mem_of_getElem? (i := 51) rfl))) (Or.inr (hw _ (List.mem_of_getElem? (i := 46) rfl))) (by decide) (t := (.object "java/lang/String")) (t' := (.object "com/example/covenant_atlas/covenantatlas/model/PartKind")) (by decide) (by decide)))).other W7 (Or.inr (slot_ne (Or.inr (hw _ (List.mem_of_getElem? (i := 51) rfl))) (Or.inr (hw _ (List.mem_of_getElem? (i := 49) rfl))) (by decide) (t := (.object "java/lang/String")) (t' := (.object "java/lang/String")) (by decide) (by decide)))) ((Pf0.wr W4).wr W7) (Or.inr ⟨(hw _ (List.mem_of_getElem? (i := 51) rfl)), rfl, hnm⟩) (hw _ (List.mem_of_getElem? (i := 27) rfl)) (ty := (.object "java/lang/String")) (by decide) rfl rfl (g := (mkF m 34 #[.val (.ref a1), .val (.ref a2), .val (.ref a3), .val (.ref a4), .val (.int p5), .val (.int p6)] [(.ref a4), (.ref a1)])) rfl rfl (hb hby d6_34)
  refine own_go st10 ?_
  have Fw10 := ((Pf3.other W4 (Or.inr (slot_ne (Or.inr (hw _ (List.mem_of_getElem? (i := 51) rfl))) (Or.inr (hw _ (List.mem_of_getElem? (i := 46) rfl))) (by decide) (t := (.object "java/lang/String")) (t' := (.object "com/example/covenant_atlas/covenantatlas/model/PartKind")) (by decide) (by decide)))).other W7 (Or.inr (slot_ne (Or.inr (hw _ (List.mem_of_getElem? (i := 51) rfl))) (Or.inr (hw _ (List.mem_of_getElem? (i := 49) rfl))) (by decide) (t := (.object "java/lang/String")) (t' := (.object "java/lang/String")) (by decide) (by decide)))).same W10
  have N10 := Fr.snoc X10 N8 ge_a1
  have K10 : Keep h0 h10 [a1] := K7.wr W10 (Or.inl (List.mem_of_getElem? (i := 0) rfl))
  show WP p e below _ (T10.setTop (mkF m 37 #[.val (.ref a1), .val (.ref a2), .val (.ref a3), .val (.ref a4), .val (.int p5), .val (.int p6)] []))
  refine own_go (fun t_ k => XS.aloadN X10.here hx rfl (hb hby d6_37) rfl rfl k) ?_
  show WP p e below _ (T10.setTop (mkF m 38 #[.val (.ref a1), .val (.ref a2), .val (.ref a3), .val (.ref a4), .val (.int p5), .val (.int p6)] [(.ref a1)]))
  refine own_go (fun t_ k => XS.iload X10.here hx rfl (hb hby d6_38) rfl k) ?_
  show WP p e below _ (T10.setTop (mkF m 40 #[.val (.ref a1), .val (.ref a2), .val (.ref a3), .val (.ref a4), .val (.int p5), .val (.int p6)] [(.int p5), (.ref a1)]))
  obtain ⟨T11, h11, X11, e11, W11, st11⟩ := putF X10 hx hZ hown (host := "") (Or.inl (hw _ (List.mem_of_getElem? (i := 52) rfl))) Via.refl e10 (((Pf4.other W4 (Or.inr (slot_ne (Or.inr (hw _ (List.mem_of_getElem? (i := 53) rfl))) (Or.inr (hw _ (List.mem_of_getElem? (i := 46) rfl))) (by decide) (t := .int) (t' := (.object "com/example/covenant_atlas/covenantatlas/model/PartKind")) (by decide) (by decide)))).other W7 (Or.inr (slot_ne (Or.inr (hw _ (List.mem_of_getElem? (i := 53) rfl))) (Or.inr (hw _ (List.mem_of_getElem? (i := 49) rfl))) (by decide) (t := .int) (t' := (.object "java/lang/String")) (by decide) (by decide)))).other W10 (Or.inr (slot_ne (Or.inr (hw _ (List.mem_of_getElem? (i := 53) rfl))) (Or.inr (hw _ (List.mem_of_getElem? (i := 51) rfl))) (by decide) (t := .int) (t' := (.object "java/lang/String")) (by decide) (by decide)))) (((Pf0.wr W4).wr W7).wr W10) (Or.inr ⟨(hw _ (List.mem_of_getElem? (i := 53) rfl)), rfl, hnm⟩) (hw _ (List.mem_of_getElem? (i := 27) rfl)) (ty := .int) (by decide) rfl rfl (g := (mkF m 40 #[.val (.ref a1), .val (.ref a2), .val (.ref a3), .val (.ref a4), .val (.int p5), .val (.int p6)] [(.int p5), (.ref a1)])) rfl rfl (hb hby d6_40)
  refine own_go st11 ?_
  have Fw11 := (((Pf4.other W4 (Or.inr (slot_ne (Or.inr (hw _ (List.mem_of_getElem? (i := 53) rfl))) (Or.inr (hw _ (List.mem_of_getElem? (i := 46) rfl))) (by decide) (t := .int) (t' := (.object "com/example/covenant_atlas/covenantatlas/model/PartKind")) (by decide) (by decide)))).other W7 (Or.inr (slot_ne (Or.inr (hw _ (List.mem_of_getElem? (i := 53) rfl))) (Or.inr (hw _ (List.mem_of_getElem? (i := 49) rfl))) (by decide) (t := .int) (t' := (.object "java/lang/String")) (by decide) (by decide)))).other W10 (Or.inr (slot_ne (Or.inr (hw _ (List.mem_of_getElem? (i := 53) rfl))) (Or.inr (hw _ (List.mem_of_getElem? (i := 51) rfl))) (by decide) (t := .int) (t' := (.object "java/lang/String")) (by decide) (by decide)))).same W11
  have N11 := Fr.snoc X11 N10 ge_a1
  have K11 : Keep h0 h11 [a1] := K10.wr W11 (Or.inl (List.mem_of_getElem? (i := 0) rfl))
  show WP p e below _ (T11.setTop (mkF m 43 #[.val (.ref a1), .val (.ref a2), .val (.ref a3), .val (.ref a4), .val (.int p5), .val (.int p6)] []))
  refine own_go (fun t_ k => XS.aloadN X11.here hx rfl (hb hby d6_43) rfl rfl k) ?_
  show WP p e below _ (T11.setTop (mkF m 44 #[.val (.ref a1), .val (.ref a2), .val (.ref a3), .val (.ref a4), .val (.int p5), .val (.int p6)] [(.ref a1)]))
  refine own_go (fun t_ k => XS.iload X11.here hx rfl (hb hby d6_44) rfl k) ?_
  show WP p e below _ (T11.setTop (mkF m 46 #[.val (.ref a1), .val (.ref a2), .val (.ref a3), .val (.ref a4), .val (.int p5), .val (.int p6)] [(.int p6), (.ref a1)]))
  obtain ⟨T12, h12, X12, e12, W12, st12⟩ := putF X11 hx hZ hown (host := "") (Or.inl (hw _ (List.mem_of_getElem? (i := 54) rfl))) Via.refl e11 ((((Pf5.other W4 (Or.inr (slot_ne (Or.inr (hw _ (List.mem_of_getElem? (i := 55) rfl))) (Or.inr (hw _ (List.mem_of_getElem? (i := 46) rfl))) (by decide) (t := .int) (t' := (.object "com/example/covenant_atlas/covenantatlas/model/PartKind")) (by decide) (by decide)))).other W7 (Or.inr (slot_ne (Or.inr (hw _ (List.mem_of_getElem? (i := 55) rfl))) (Or.inr (hw _ (List.mem_of_getElem? (i := 49) rfl))) (by decide) (t := .int) (t' := (.object "java/lang/String")) (by decide) (by decide)))).other W10 (Or.inr (slot_ne (Or.inr (hw _ (List.mem_of_getElem? (i := 55) rfl))) (Or.inr (hw _ (List.mem_of_getElem? (i := 51) rfl))) (by decide) (t := .int) (t' := (.object "java/lang/String")) (by decide) (by decide)))).other W11 (Or.inr (slot_ne (Or.inr (hw _ (List.mem_of_getElem? (i := 55) rfl))) (Or.inr (hw _ (List.mem_of_getElem? (i := 53) rfl))) (by decide) (t := .int) (t' := .int) (by decide) (by decide)))) ((((Pf0.wr W4).wr W7).wr W10).wr W11) (Or.inr ⟨(hw _ (List.mem_of_getElem? (i := 55) rfl)), rfl, hnm⟩) (hw _ (List.mem_of_getElem? (i := 27) rfl)) (ty := .int) (by decide) rfl rfl (g := (mkF m 46 #[.val (.ref a1), .val (.ref a2), .val (.ref a3), .val (.ref a4), .val (.int p5), .val (.int p6)] [(.int p6), (.ref a1)])) rfl rfl (hb hby d6_46)
  refine own_go st12 ?_
  have Fw12 := ((((Pf5.other W4 (Or.inr (slot_ne (Or.inr (hw _ (List.mem_of_getElem? (i := 55) rfl))) (Or.inr (hw _ (List.mem_of_getElem? (i := 46) rfl))) (by decide) (t := .int) (t' := (.object "com/example/covenant_atlas/covenantatlas/model/PartKind")) (by decide) (by decide)))).other W7 (Or.inr (slot_ne (Or.inr (hw _ (List.mem_of_getElem? (i := 55) rfl))) (Or.inr (hw _ (List.mem_of_getElem? (i := 49) rfl))) (by decide) (t := .int) (t' := (.object "java/lang/String")) (by decide) (by decide)))).other W10 (Or.inr (slot_ne (Or.inr (hw _ (List.mem_of_getElem? (i := 55) rfl))) (Or.inr (hw _ (List.mem_of_getElem? (i := 51) rfl))) (by decide) (t := .int) (t' := (.object "java/lang/String")) (by decide) (by decide)))).other W11 (Or.inr (slot_ne (Or.inr (hw _ (List.mem_of_getElem? (i := 55) rfl))) (Or.inr (hw _ (List.mem_of_getElem? (i := 53) rfl))) (by decide) (t := .int) (t' := .int) (by decide) (by decide)))).same W12
  have N12 := Fr.snoc X12 N11 ge_a1
  have K12 : Keep h0 h12 [a1] := K11.wr W12 (Or.inl (List.mem_of_getElem? (i := 0) rfl))
  show WP p e below _ (T12.setTop (mkF m 49 #[.val (.ref a1), .val (.ref a2), .val (.ref a3), .val (.ref a4), .val (.int p5), .val (.int p6)] []))
  exact own_ret0 X12 hx Bd.notSynchronized Bd.returns (hb hby d6_49) (by rw [e12]; exact ⟨rfl, N12, K12, (((((Pf0.wr W4).wr W7).wr W10).wr W11).wr W12), ((((Fw4.other W7 (Or.inr (slot_ne (Or.inr (hw _ (List.mem_of_getElem? (i := 46) rfl))) (Or.inr (hw _ (List.mem_of_getElem? (i := 49) rfl))) (by decide) (t := (.object "com/example/covenant_atlas/covenantatlas/model/PartKind")) (t' := (.object "java/lang/String")) (by decide) (by decide)))).other W10 (Or.inr (slot_ne (Or.inr (hw _ (List.mem_of_getElem? (i := 46) rfl))) (Or.inr (hw _ (List.mem_of_getElem? (i := 51) rfl))) (by decide) (t := (.object "com/example/covenant_atlas/covenantatlas/model/PartKind")) (t' := (.object "java/lang/String")) (by decide) (by decide)))).other W11 (Or.inr (slot_ne (Or.inr (hw _ (List.mem_of_getElem? (i := 46) rfl))) (Or.inr (hw _ (List.mem_of_getElem? (i := 53) rfl))) (by decide) (t := (.object "com/example/covenant_atlas/covenantatlas/model/PartKind")) (t' := .int) (by decide) (by decide)))).other W12 (Or.inr (slot_ne (Or.inr (hw _ (List.mem_of_getElem? (i := 46) rfl))) (Or.inr (hw _ (List.mem_of_getElem? (i := 55) rfl))) (by decide) (t := (.object "com/example/covenant_atlas/covenantatlas/model/PartKind")) (t' := .int) (by decide) (by decide)))), (((Fw7.other W10 (Or.inr (slot_ne (Or.inr (hw _ (List.mem_of_getElem? (i := 49) rfl))) (Or.inr (hw _ (List.mem_of_getElem? (i := 51) rfl))) (by decide) (t := (.object "java/lang/String")) (t' := (.object "java/lang/String")) (by decide) (by decide)))).other W11 (Or.inr (slot_ne (Or.inr (hw _ (List.mem_of_getElem? (i := 49) rfl))) (Or.inr (hw _ (List.mem_of_getElem? (i := 53) rfl))) (by decide) (t := (.object "java/lang/String")) (t' := .int) (by decide) (by decide)))).other W12 (Or.inr (slot_ne (Or.inr (hw _ (List.mem_of_getElem? (i := 49) rfl))) (Or.inr (hw _ (List.mem_of_getElem? (i := 55) rfl))) (by decide) (t := (.object "java/lang/String")) (t' := .int) (by decide) (by decide)))), ((Fw10.other W11 (Or.inr (slot_ne (Or.inr (hw _ (List.mem_of_getElem? (i := 51) rfl))) (Or.inr (hw _ (List.mem_of_getElem? (i := 53) rfl))) (by decide) (t := (.object "java/lang/String")) (t' := .int) (by decide) (by decide)))).other W12 (Or.inr (slot_ne (Or.inr (hw _ (List.mem_of_getElem? (i := 51) rfl))) (Or.inr (hw _ (List.mem_of_getElem? (i := 55) rfl))) (by decide) (t := (.object "java/lang/String")) (t' := .int) (by decide) (by decide)))), (Fw11.other W12 (Or.inr (slot_ne (Or.inr (hw _ (List.mem_of_getElem? (i := 53) rfl))) (Or.inr (hw _ (List.mem_of_getElem? (i := 55) rfl))) (by decide) (t := .int) (t' := .int) (by decide) (by decide)))), Fw12⟩) (by decide) (by decide)
def f8 (p1 : Int32) (p2 : Int32) (p3 : Int32) (p4 : Int32) (p5 : Int32) (p6 : Int32) : Int32 := (if p1 = p4 then (if p1 < (1 : Int32) then (if p1 < (2 : Int32) then (1 : Int32) else (if p3 = p6 then (1 : Int32) else (0 : Int32))) else (if p2 = p5 then (if p1 < (2 : Int32) then (1 : Int32) else (if p3 = p6 then (1 : Int32) else (0 : Int32))) else (0 : Int32))) else (0 : Int32))
theorem d8_0 : decode method_4_code 0 = .ok (.iload_n 0, 1) := by decide +kernel
theorem d8_1 : decode method_4_code 1 = .ok (.iload_n 3, 1) := by decide +kernel
theorem d8_2 : decode method_4_code 2 = .ok (.if_icmp .ne 29, 3) := by decide +kernel
theorem d8_5 : decode method_4_code 5 = .ok (.iload_n 0, 1) := by decide +kernel
theorem d8_6 : decode method_4_code 6 = .ok (.iconst 1, 1) := by decide +kernel
theorem d8_7 : decode method_4_code 7 = .ok (.if_icmp .lt 9, 3) := by decide +kernel
theorem d8_10 : decode method_4_code 10 = .ok (.iload_n 1, 1) := by decide +kernel
theorem d8_11 : decode method_4_code 11 = .ok (.iload 4, 2) := by decide +kernel
theorem d8_13 : decode method_4_code 13 = .ok (.if_icmp .ne 18, 3) := by decide +kernel
theorem d8_16 : decode method_4_code 16 = .ok (.iload_n 0, 1) := by decide +kernel
theorem d8_17 : decode method_4_code 17 = .ok (.iconst 2, 1) := by decide +kernel
theorem d8_18 : decode method_4_code 18 = .ok (.if_icmp .lt 9, 3) := by decide +kernel
theorem d8_21 : decode method_4_code 21 = .ok (.iload_n 2, 1) := by decide +kernel
theorem d8_22 : decode method_4_code 22 = .ok (.iload 5, 2) := by decide +kernel
theorem d8_24 : decode method_4_code 24 = .ok (.if_icmp .ne 7, 3) := by decide +kernel
theorem d8_27 : decode method_4_code 27 = .ok (.iconst 1, 1) := by decide +kernel
theorem d8_28 : decode method_4_code 28 = .ok (.goto 4, 3) := by decide +kernel
theorem d8_31 : decode method_4_code 31 = .ok (.iconst 0, 1) := by decide +kernel
theorem d8_32 : decode method_4_code 32 = .ok (.ireturn, 1) := by decide +kernel
theorem ef_rm8 (m : MethodId) (x0 : Int32) (x1 : Int32) (x2 : Int32) (x3 : Int32) (x4 : Int32) (x5 : Int32) : entryFrame m #[(.int x0), (.int x1), (.int x2), (.int x3), (.int x4), (.int x5)] 6 = mkF m 0 #[.val (.int x0), .val (.int x1), .val (.int x2), .val (.int x3), .val (.int x4), .val (.int x5)] [] := by first | (simp [entryFrame, mkF, argsToLocals, Value.category]; done) | rfl
set_option maxRecDepth 65536 in
set_option maxHeartbeats 40000000 in
theorem rm8 (l : Launch) (Z : State) (a0 : Array Value) (hw : ∀ d ∈ tables_1, d.before a0 Z = true) (ws : List Jvm.Cond) (p1 : Int32) (p2 : Int32) (p3 : Int32) (p4 : Int32) (p5 : Int32) (p6 : Int32) (h0 : Heap) (n0 : Nat) :
    MetFree l (⟨"com/example/covenant_atlas/covenantatlas/model/OutlineEntryEqualsPinLaw", "sameStr", "(IIIIII)Z"⟩ : MethodName) (head1 (Jvm.Cond.code (⟨"com/example/covenant_atlas/covenantatlas/model/OutlineEntryEqualsPinLaw", "sameStr", "(IIIIII)Z"⟩ : MethodName) method_4_code 6 (some .boolean) :: ws) ({ frames := 0, cells := 0, slots := 0, locals := 0 } : Room)) (fun a U => a = #[(.int p1), (.int p2), (.int p3), (.int p4), (.int p5), (.int p6)] ∧ Z.Warmed39 U.vm ∧ U.heap = h0) (fun _ _ _ _ _ => True) (fun _ U o U' => ∃ v L, o = .returned v ∧ (PQ h0 n0 (.int (f8 p1 p2 p3 p4 p5 p6))) v U'.heap L ∧ FrameEnd U o U' L ({ frames := 0, cells := 0, slots := 0, locals := 0 } : Room).cells ({ frames := 0, cells := 0, slots := 0, locals := 0 } : Room).slots) := by
  refine MetFree.of_bodySF (plainFor_of_name pn_2) hisR ?_
  intro p e s m args below meth c s₁ Bd hml0 hP hK
  obtain ⟨rfl, hZ, hh⟩ := hP
  have hx := Bd.exec
  have hby := Bd.bytes
  have hml : c.maxLocals = 6 := hml0
  have hown : s.vm.findClass "com/example/covenant_atlas/covenantatlas/model/OutlineEntryEqualsPinLaw" = some m.cls := findClass_of_methodNamed Bd.named
  have hnm := (name_of_methodNamed Bd.named Bd.method).1
  have X0 : Stand p l e ({ frames := 0, cells := 0, slots := 0, locals := 0 } : Room) s m #[(.int p1), (.int p2), (.int p3), (.int p4), (.int p5), (.int p6)] below meth c s₁ [] 0 0 := Stand.of_body Bd
  have e0 : s₁.heap = h0 := by rw [← hh, Bd.state]; rfl
  have N0 := Fr.nil n0
  show WP p e below (GG (PQ h0 n0 (.int (f8 p1 p2 p3 p4 p5 p6))) s ({ frames := 0, cells := 0, slots := 0, locals := 0 } : Room).cells ({ frames := 0, cells := 0, slots := 0, locals := 0 } : Room).slots) (s₁.setTop (entryFrame m #[(.int p1), (.int p2), (.int p3), (.int p4), (.int p5), (.int p6)] 6))
  rw [ef_rm8 m p1 p2 p3 p4 p5 p6]
  show WP p e below _ (s₁.setTop (mkF m 0 #[.val (.int p1), .val (.int p2), .val (.int p3), .val (.int p4), .val (.int p5), .val (.int p6)] []))
  refine own_go (fun t_ k => XS.iloadN X0.here hx rfl (hb hby d8_0) rfl k) ?_
  show WP p e below _ (s₁.setTop (mkF m 1 #[.val (.int p1), .val (.int p2), .val (.int p3), .val (.int p4), .val (.int p5), .val (.int p6)] [(.int p1)]))
  refine own_go (fun t_ k => XS.iloadN X0.here hx rfl (hb hby d8_1) rfl k) ?_
  show WP p e below _ (s₁.setTop (mkF m 2 #[.val (.int p1), .val (.int p2), .val (.int p3), .val (.int p4), .val (.int p5), .val (.int p6)] [(.int p4), (.int p1)]))
  by_cases hc2_1 : p1 = p4
  · refine own_go (fun t_ k => XS.icmpNo X0.here hx rfl (hb hby d8_2) rfl (teq hc2_1).2 k) ?_
    show WP p e below _ (s₁.setTop (mkF m 5 #[.val (.int p1), .val (.int p2), .val (.int p3), .val (.int p4), .val (.int p5), .val (.int p6)] []))
    refine own_go (fun t_ k => XS.iloadN X0.here hx rfl (hb hby d8_5) rfl k) ?_
    show WP p e below _ (s₁.setTop (mkF m 6 #[.val (.int p1), .val (.int p2), .val (.int p3), .val (.int p4), .val (.int p5), .val (.int p6)] [(.int p1)]))
    refine own_go (fun t_ k => XS.iconst X0.here hx rfl (hb hby d8_6) k) ?_
    show WP p e below _ (s₁.setTop (mkF m 7 #[.val (.int p1), .val (.int p2), .val (.int p3), .val (.int p4), .val (.int p5), .val (.int p6)] [(.int (1 : Int32)), (.int p1)]))
    by_cases hc7_2 : p1 < (1 : Int32)
    · refine own_go (fun t_ k => XS.icmpYes X0.here hx rfl (pc0 := 7) (pc' := 16) rfl (hb hby d8_7) rfl (tlt hc7_2).1 (by decide) (by decide) k) ?_
      show WP p e below _ (s₁.setTop (mkF m 16 #[.val (.int p1), .val (.int p2), .val (.int p3), .val (.int p4), .val (.int p5), .val (.int p6)] []))
      refine own_go (fun t_ k => XS.iloadN X0.here hx rfl (hb hby d8_16) rfl k) ?_
      show WP p e below _ (s₁.setTop (mkF m 17 #[.val (.int p1), .val (.int p2), .val (.int p3), .val (.int p4), .val (.int p5), .val (.int p6)] [(.int p1)]))
      refine own_go (fun t_ k => XS.iconst X0.here hx rfl (hb hby d8_17) k) ?_
      show WP p e below _ (s₁.setTop (mkF m 18 #[.val (.int p1), .val (.int p2), .val (.int p3), .val (.int p4), .val (.int p5), .val (.int p6)] [(.int (2 : Int32)), (.int p1)]))
      by_cases hc18_3 : p1 < (2 : Int32)
      · refine own_go (fun t_ k => XS.icmpYes X0.here hx rfl (pc0 := 18) (pc' := 27) rfl (hb hby d8_18) rfl (tlt hc18_3).1 (by decide) (by decide) k) ?_
        show WP p e below _ (s₁.setTop (mkF m 27 #[.val (.int p1), .val (.int p2), .val (.int p3), .val (.int p4), .val (.int p5), .val (.int p6)] []))
        refine own_go (fun t_ k => XS.iconst X0.here hx rfl (hb hby d8_27) k) ?_
        show WP p e below _ (s₁.setTop (mkF m 28 #[.val (.int p1), .val (.int p2), .val (.int p3), .val (.int p4), .val (.int p5), .val (.int p6)] [(.int (1 : Int32))]))
        refine own_go (fun t_ k => XS.goto X0.here hx rfl (pc0 := 28) (pc' := 32) rfl (hb hby d8_28) (by decide) (by decide) k) ?_
        show WP p e below _ (s₁.setTop (mkF m 32 #[.val (.int p1), .val (.int p2), .val (.int p3), .val (.int p4), .val (.int p5), .val (.int p6)] [(.int (1 : Int32))]))
        exact own_retZ X0 hx Bd.notSynchronized Bd.returns (hb hby d8_32) (by decide) (show PQ h0 n0 (.int (f8 p1 p2 p3 p4 p5 p6)) _ _ _ from ⟨by rw [f8, if_pos hc2_1, if_pos hc7_2, if_pos hc18_3], N0, e0⟩) (by decide) (by decide)
      · refine own_go (fun t_ k => XS.icmpNo X0.here hx rfl (hb hby d8_18) rfl (flt hc18_3).1 k) ?_
        show WP p e below _ (s₁.setTop (mkF m 21 #[.val (.int p1), .val (.int p2), .val (.int p3), .val (.int p4), .val (.int p5), .val (.int p6)] []))
        refine own_go (fun t_ k => XS.iloadN X0.here hx rfl (hb hby d8_21) rfl k) ?_
        show WP p e below _ (s₁.setTop (mkF m 22 #[.val (.int p1), .val (.int p2), .val (.int p3), .val (.int p4), .val (.int p5), .val (.int p6)] [(.int p3)]))
        refine own_go (fun t_ k => XS.iload X0.here hx rfl (hb hby d8_22) rfl k) ?_
        show WP p e below _ (s₁.setTop (mkF m 24 #[.val (.int p1), .val (.int p2), .val (.int p3), .val (.int p4), .val (.int p5), .val (.int p6)] [(.int p6), (.int p3)]))
        by_cases hc24_4 : p3 = p6
        · refine own_go (fun t_ k => XS.icmpNo X0.here hx rfl (hb hby d8_24) rfl (teq hc24_4).2 k) ?_
          show WP p e below _ (s₁.setTop (mkF m 27 #[.val (.int p1), .val (.int p2), .val (.int p3), .val (.int p4), .val (.int p5), .val (.int p6)] []))
          refine own_go (fun t_ k => XS.iconst X0.here hx rfl (hb hby d8_27) k) ?_
          show WP p e below _ (s₁.setTop (mkF m 28 #[.val (.int p1), .val (.int p2), .val (.int p3), .val (.int p4), .val (.int p5), .val (.int p6)] [(.int (1 : Int32))]))
          refine own_go (fun t_ k => XS.goto X0.here hx rfl (pc0 := 28) (pc' := 32) rfl (hb hby d8_28) (by decide) (by decide) k) ?_
          show WP p e below _ (s₁.setTop (mkF m 32 #[.val (.int p1), .val (.int p2), .val (.int p3), .val (.int p4), .val (.int p5), .val (.int p6)] [(.int (1 : Int32))]))
          exact own_retZ X0 hx Bd.notSynchronized Bd.returns (hb hby d8_32) (by decide) (show PQ h0 n0 (.int (f8 p1 p2 p3 p4 p5 p6)) _ _ _ from ⟨by rw [f8, if_pos hc2_1, if_pos hc7_2, if_neg hc18_3, if_pos hc24_4], N0, e0⟩) (by decide) (by decide)
        · refine own_go (fun t_ k => XS.icmpYes X0.here hx rfl (pc0 := 24) (pc' := 31) rfl (hb hby d8_24) rfl (feq hc24_4).2 (by decide) (by decide) k) ?_
          show WP p e below _ (s₁.setTop (mkF m 31 #[.val (.int p1), .val (.int p2), .val (.int p3), .val (.int p4), .val (.int p5), .val (.int p6)] []))
          refine own_go (fun t_ k => XS.iconst X0.here hx rfl (hb hby d8_31) k) ?_
          show WP p e below _ (s₁.setTop (mkF m 32 #[.val (.int p1), .val (.int p2), .val (.int p3), .val (.int p4), .val (.int p5), .val (.int p6)] [(.int (0 : Int32))]))
          exact own_retZ X0 hx Bd.notSynchronized Bd.returns (hb hby d8_32) (by decide) (show PQ h0 n0 (.int (f8 p1 p2 p3 p4 p5 p6)) _ _ _ from ⟨by rw [f8, if_pos hc2_1, if_pos hc7_2, if_neg hc18_3, if_neg hc24_4], N0, e0⟩) (by decide) (by decide)
    · refine own_go (fun t_ k => XS.icmpNo X0.here hx rfl (hb hby d8_7) rfl (flt hc7_2).1 k) ?_
      show WP p e below _ (s₁.setTop (mkF m 10 #[.val (.int p1), .val (.int p2), .val (.int p3), .val (.int p4), .val (.int p5), .val (.int p6)] []))
      refine own_go (fun t_ k => XS.iloadN X0.here hx rfl (hb hby d8_10) rfl k) ?_
      show WP p e below _ (s₁.setTop (mkF m 11 #[.val (.int p1), .val (.int p2), .val (.int p3), .val (.int p4), .val (.int p5), .val (.int p6)] [(.int p2)]))
      refine own_go (fun t_ k => XS.iload X0.here hx rfl (hb hby d8_11) rfl k) ?_
      show WP p e below _ (s₁.setTop (mkF m 13 #[.val (.int p1), .val (.int p2), .val (.int p3), .val (.int p4), .val (.int p5), .val (.int p6)] [(.int p5), (.int p2)]))
      by_cases hc13_5 : p2 = p5
      · refine own_go (fun t_ k => XS.icmpNo X0.here hx rfl (hb hby d8_13) rfl (teq hc13_5).2 k) ?_
        show WP p e below _ (s₁.setTop (mkF m 16 #[.val (.int p1), .val (.int p2), .val (.int p3), .val (.int p4), .val (.int p5), .val (.int p6)] []))
        refine own_go (fun t_ k => XS.iloadN X0.here hx rfl (hb hby d8_16) rfl k) ?_
        show WP p e below _ (s₁.setTop (mkF m 17 #[.val (.int p1), .val (.int p2), .val (.int p3), .val (.int p4), .val (.int p5), .val (.int p6)] [(.int p1)]))
        refine own_go (fun t_ k => XS.iconst X0.here hx rfl (hb hby d8_17) k) ?_
        show WP p e below _ (s₁.setTop (mkF m 18 #[.val (.int p1), .val (.int p2), .val (.int p3), .val (.int p4), .val (.int p5), .val (.int p6)] [(.int (2 : Int32)), (.int p1)]))
        by_cases hc18_6 : p1 < (2 : Int32)
        · refine own_go (fun t_ k => XS.icmpYes X0.here hx rfl (pc0 := 18) (pc' := 27) rfl (hb hby d8_18) rfl (tlt hc18_6).1 (by decide) (by decide) k) ?_
          show WP p e below _ (s₁.setTop (mkF m 27 #[.val (.int p1), .val (.int p2), .val (.int p3), .val (.int p4), .val (.int p5), .val (.int p6)] []))
          refine own_go (fun t_ k => XS.iconst X0.here hx rfl (hb hby d8_27) k) ?_
          show WP p e below _ (s₁.setTop (mkF m 28 #[.val (.int p1), .val (.int p2), .val (.int p3), .val (.int p4), .val (.int p5), .val (.int p6)] [(.int (1 : Int32))]))
          refine own_go (fun t_ k => XS.goto X0.here hx rfl (pc0 := 28) (pc' := 32) rfl (hb hby d8_28) (by decide) (by decide) k) ?_
          show WP p e below _ (s₁.setTop (mkF m 32 #[.val (.int p1), .val (.int p2), .val (.int p3), .val (.int p4), .val (.int p5), .val (.int p6)] [(.int (1 : Int32))]))
          exact own_retZ X0 hx Bd.notSynchronized Bd.returns (hb hby d8_32) (by decide) (show PQ h0 n0 (.int (f8 p1 p2 p3 p4 p5 p6)) _ _ _ from ⟨by rw [f8, if_pos hc2_1, if_neg hc7_2, if_pos hc13_5, if_pos hc18_6], N0, e0⟩) (by decide) (by decide)
        · refine own_go (fun t_ k => XS.icmpNo X0.here hx rfl (hb hby d8_18) rfl (flt hc18_6).1 k) ?_
          show WP p e below _ (s₁.setTop (mkF m 21 #[.val (.int p1), .val (.int p2), .val (.int p3), .val (.int p4), .val (.int p5), .val (.int p6)] []))
          refine own_go (fun t_ k => XS.iloadN X0.here hx rfl (hb hby d8_21) rfl k) ?_
          show WP p e below _ (s₁.setTop (mkF m 22 #[.val (.int p1), .val (.int p2), .val (.int p3), .val (.int p4), .val (.int p5), .val (.int p6)] [(.int p3)]))
          refine own_go (fun t_ k => XS.iload X0.here hx rfl (hb hby d8_22) rfl k) ?_
          show WP p e below _ (s₁.setTop (mkF m 24 #[.val (.int p1), .val (.int p2), .val (.int p3), .val (.int p4), .val (.int p5), .val (.int p6)] [(.int p6), (.int p3)]))
          by_cases hc24_7 : p3 = p6
          · refine own_go (fun t_ k => XS.icmpNo X0.here hx rfl (hb hby d8_24) rfl (teq hc24_7).2 k) ?_
            show WP p e below _ (s₁.setTop (mkF m 27 #[.val (.int p1), .val (.int p2), .val (.int p3), .val (.int p4), .val (.int p5), .val (.int p6)] []))
            refine own_go (fun t_ k => XS.iconst X0.here hx rfl (hb hby d8_27) k) ?_
            show WP p e below _ (s₁.setTop (mkF m 28 #[.val (.int p1), .val (.int p2), .val (.int p3), .val (.int p4), .val (.int p5), .val (.int p6)] [(.int (1 : Int32))]))
            refine own_go (fun t_ k => XS.goto X0.here hx rfl (pc0 := 28) (pc' := 32) rfl (hb hby d8_28) (by decide) (by decide) k) ?_
            show WP p e below _ (s₁.setTop (mkF m 32 #[.val (.int p1), .val (.int p2), .val (.int p3), .val (.int p4), .val (.int p5), .val (.int p6)] [(.int (1 : Int32))]))
            exact own_retZ X0 hx Bd.notSynchronized Bd.returns (hb hby d8_32) (by decide) (show PQ h0 n0 (.int (f8 p1 p2 p3 p4 p5 p6)) _ _ _ from ⟨by rw [f8, if_pos hc2_1, if_neg hc7_2, if_pos hc13_5, if_neg hc18_6, if_pos hc24_7], N0, e0⟩) (by decide) (by decide)
          · refine own_go (fun t_ k => XS.icmpYes X0.here hx rfl (pc0 := 24) (pc' := 31) rfl (hb hby d8_24) rfl (feq hc24_7).2 (by decide) (by decide) k) ?_
            show WP p e below _ (s₁.setTop (mkF m 31 #[.val (.int p1), .val (.int p2), .val (.int p3), .val (.int p4), .val (.int p5), .val (.int p6)] []))
            refine own_go (fun t_ k => XS.iconst X0.here hx rfl (hb hby d8_31) k) ?_
            show WP p e below _ (s₁.setTop (mkF m 32 #[.val (.int p1), .val (.int p2), .val (.int p3), .val (.int p4), .val (.int p5), .val (.int p6)] [(.int (0 : Int32))]))
            exact own_retZ X0 hx Bd.notSynchronized Bd.returns (hb hby d8_32) (by decide) (show PQ h0 n0 (.int (f8 p1 p2 p3 p4 p5 p6)) _ _ _ from ⟨by rw [f8, if_pos hc2_1, if_neg hc7_2, if_pos hc13_5, if_neg hc18_6, if_neg hc24_7], N0, e0⟩) (by decide) (by decide)
      · refine own_go (fun t_ k => XS.icmpYes X0.here hx rfl (pc0 := 13) (pc' := 31) rfl (hb hby d8_13) rfl (feq hc13_5).2 (by decide) (by decide) k) ?_
        show WP p e below _ (s₁.setTop (mkF m 31 #[.val (.int p1), .val (.int p2), .val (.int p3), .val (.int p4), .val (.int p5), .val (.int p6)] []))
        refine own_go (fun t_ k => XS.iconst X0.here hx rfl (hb hby d8_31) k) ?_
        show WP p e below _ (s₁.setTop (mkF m 32 #[.val (.int p1), .val (.int p2), .val (.int p3), .val (.int p4), .val (.int p5), .val (.int p6)] [(.int (0 : Int32))]))
        exact own_retZ X0 hx Bd.notSynchronized Bd.returns (hb hby d8_32) (by decide) (show PQ h0 n0 (.int (f8 p1 p2 p3 p4 p5 p6)) _ _ _ from ⟨by rw [f8, if_pos hc2_1, if_neg hc7_2, if_neg hc13_5], N0, e0⟩) (by decide) (by decide)
  · refine own_go (fun t_ k => XS.icmpYes X0.here hx rfl (pc0 := 2) (pc' := 31) rfl (hb hby d8_2) rfl (feq hc2_1).2 (by decide) (by decide) k) ?_
    show WP p e below _ (s₁.setTop (mkF m 31 #[.val (.int p1), .val (.int p2), .val (.int p3), .val (.int p4), .val (.int p5), .val (.int p6)] []))
    refine own_go (fun t_ k => XS.iconst X0.here hx rfl (hb hby d8_31) k) ?_
    show WP p e below _ (s₁.setTop (mkF m 32 #[.val (.int p1), .val (.int p2), .val (.int p3), .val (.int p4), .val (.int p5), .val (.int p6)] [(.int (0 : Int32))]))
    exact own_retZ X0 hx Bd.notSynchronized Bd.returns (hb hby d8_32) (by decide) (show PQ h0 n0 (.int (f8 p1 p2 p3 p4 p5 p6)) _ _ _ from ⟨by rw [f8, if_neg hc2_1], N0, e0⟩) (by decide) (by decide)
def f_rmLe_0_0  : Int32 := (1 : Int32)
def Q_rmLe_0_0 (Z : State) (a1 : Addr) (a2 : Addr) (k1 : ClassId) (k2 : ClassId) (h0 : Heap) (n0 : Nat) (v : Option Value) (h : Heap) (L : List Loc) : Prop := v = some (.int (f_rmLe_0_0)) ∧ Fr n0 L ∧ h = h0
theorem d11_0 : decode jdk_43_method_13_code 0 = .ok (.aload_n 0, 1) := by decide +kernel
theorem d11_1 : decode jdk_43_method_13_code 1 = .ok (.arraylength, 1) := by decide +kernel
theorem d11_2 : decode jdk_43_method_13_code 2 = .ok (.aload_n 1, 1) := by decide +kernel
theorem d11_3 : decode jdk_43_method_13_code 3 = .ok (.arraylength, 1) := by decide +kernel
theorem d11_4 : decode jdk_43_method_13_code 4 = .ok (.if_icmp .ne 30, 3) := by decide +kernel
theorem d11_7 : decode jdk_43_method_13_code 7 = .ok (.iconst 0, 1) := by decide +kernel
theorem d11_8 : decode jdk_43_method_13_code 8 = .ok (.istore_n 2, 1) := by decide +kernel
theorem d11_9 : decode jdk_43_method_13_code 9 = .ok (.iload_n 2, 1) := by decide +kernel
theorem d11_10 : decode jdk_43_method_13_code 10 = .ok (.aload_n 0, 1) := by decide +kernel
theorem d11_11 : decode jdk_43_method_13_code 11 = .ok (.arraylength, 1) := by decide +kernel
theorem d11_12 : decode jdk_43_method_13_code 12 = .ok (.if_icmp .ge 20, 3) := by decide +kernel
theorem d11_32 : decode jdk_43_method_13_code 32 = .ok (.iconst 1, 1) := by decide +kernel
theorem d11_33 : decode jdk_43_method_13_code 33 = .ok (.ireturn, 1) := by decide +kernel
theorem pn_5 : plainName "java/lang/StringLatin1" = true := by first | (simp [plainName, overriddenIn]; done) | decide +kernel
theorem ef_rmLe_0_0 (m : MethodId) (x0 : Addr) (x1 : Addr) : entryFrame m #[(.ref x0), (.ref x1)] 3 = mkF m 0 #[.val (.ref x0), .val (.ref x1), .unset] [] := by first | (simp [entryFrame, mkF, argsToLocals, Value.category]; done) | rfl
set_option maxRecDepth 65536 in
set_option maxHeartbeats 40000000 in
theorem rmLe_0_0 (l : Launch) (Z : State) (a0 : Array Value) (hw : ∀ d ∈ tables_1, d.before a0 Z = true) (ws : List Jvm.Cond) (a1 : Addr) (a2 : Addr) (k1 : ClassId) (k2 : ClassId) (h0 : Heap) (n0 : Nat) (Pf0 : Arv Z h0 a1 k1 .byte (0 : Int32) [] (.int (0 : Int32))) (Pf1 : Arv Z h0 a2 k2 .byte (0 : Int32) [] (.int (0 : Int32))) :
    MetFree l (⟨"java/lang/StringLatin1", "equals", "([B[B)Z"⟩ : MethodName) (head1 (Jvm.Cond.code (⟨"java/lang/StringLatin1", "equals", "([B[B)Z"⟩ : MethodName) jdk_43_method_13_code 3 (some .boolean) :: ws) ({ frames := 0, cells := 0, slots := 0, locals := 0 } : Room)) (fun a U => a = #[(.ref a1), (.ref a2)] ∧ Z.Warmed39 U.vm ∧ U.heap = h0) (fun _ _ _ _ _ => True) (fun _ U o U' => ∃ v L, o = .returned v ∧ (Q_rmLe_0_0 Z a1 a2 k1 k2 h0 n0) v U'.heap L ∧ FrameEnd U o U' L ({ frames := 0, cells := 0, slots := 0, locals := 0 } : Room).cells ({ frames := 0, cells := 0, slots := 0, locals := 0 } : Room).slots) := by
  refine MetFree.of_bodySF (plainFor_of_name pn_5) hisR ?_
  intro p e s m args below meth c s₁ Bd hml0 hP hK
  obtain ⟨rfl, hZ, hh⟩ := hP
  have hx := Bd.exec
  have hby := Bd.bytes
  have hml : c.maxLocals = 3 := hml0
  have hown : s.vm.findClass "java/lang/StringLatin1" = some m.cls := findClass_of_methodNamed Bd.named
  have hnm := (name_of_methodNamed Bd.named Bd.method).1
  have X0 : Stand p l e ({ frames := 0, cells := 0, slots := 0, locals := 0 } : Room) s m #[(.ref a1), (.ref a2)] below meth c s₁ [] 0 0 := Stand.of_body Bd
  have e0 : s₁.heap = h0 := by rw [← hh, Bd.state]; rfl
  have N0 := Fr.nil n0
  show WP p e below (GG (Q_rmLe_0_0 Z a1 a2 k1 k2 h0 n0) s ({ frames := 0, cells := 0, slots := 0, locals := 0 } : Room).cells ({ frames := 0, cells := 0, slots := 0, locals := 0 } : Room).slots) (s₁.setTop (entryFrame m #[(.ref a1), (.ref a2)] 3))
  rw [ef_rmLe_0_0 m a1 a2]
  show WP p e below _ (s₁.setTop (mkF m 0 #[.val (.ref a1), .val (.ref a2), .unset] []))
  refine own_go (fun t_ k => XS.aloadN X0.here hx rfl (hb hby d11_0) rfl rfl k) ?_
  show WP p e below _ (s₁.setTop (mkF m 1 #[.val (.ref a1), .val (.ref a2), .unset] [(.ref a1)]))
  obtain ⟨cl1, Ar1, -, S1, M1, -, -⟩ := id (Pf0)
  refine own_go (fun t_ k => X0.arraylength hx (by rw [e0]; exact Ar1.1) (State.isArrayOf_alike hZ.alike Ar1.2.1) (g := (mkF m 1 #[.val (.ref a1), .val (.ref a2), .unset] [(.ref a1)])) rfl rfl (hb hby d11_1) _ (by rw [len_of S1 M1]; exact k)) ?_
  show WP p e below _ (s₁.setTop (mkF m 2 #[.val (.ref a1), .val (.ref a2), .unset] [(.int (0 : Int32))]))
  refine own_go (fun t_ k => XS.aloadN X0.here hx rfl (hb hby d11_2) rfl rfl k) ?_
  show WP p e below _ (s₁.setTop (mkF m 3 #[.val (.ref a1), .val (.ref a2), .unset] [(.ref a2), (.int (0 : Int32))]))
  obtain ⟨cl2, Ar2, -, S2, M2, -, -⟩ := id (Pf1)
  refine own_go (fun t_ k => X0.arraylength hx (by rw [e0]; exact Ar2.1) (State.isArrayOf_alike hZ.alike Ar2.2.1) (g := (mkF m 3 #[.val (.ref a1), .val (.ref a2), .unset] [(.ref a2), (.int (0 : Int32))])) rfl rfl (hb hby d11_3) _ (by rw [len_of S2 M2]; exact k)) ?_
  show WP p e below _ (s₁.setTop (mkF m 4 #[.val (.ref a1), .val (.ref a2), .unset] [(.int (0 : Int32)), (.int (0 : Int32))]))
  have hc4_3 : ((0 : Int32) = (0 : Int32)) := by decide
  refine own_go (fun t_ k => XS.icmpNo X0.here hx rfl (hb hby d11_4) rfl (teq hc4_3).2 k) ?_
  show WP p e below _ (s₁.setTop (mkF m 7 #[.val (.ref a1), .val (.ref a2), .unset] []))
  refine own_go (fun t_ k => XS.iconst X0.here hx rfl (hb hby d11_7) k) ?_
  show WP p e below _ (s₁.setTop (mkF m 8 #[.val (.ref a1), .val (.ref a2), .unset] [(.int (0 : Int32))]))
  refine own_go (fun t_ k => XS.istoreN X0.here hx rfl (hb hby d11_8) rfl (l' := #[.val (.ref a1), .val (.ref a2), .val (.int (0 : Int32))]) rfl k) ?_
  show WP p e below _ (s₁.setTop (mkF m 9 #[.val (.ref a1), .val (.ref a2), .val (.int (0 : Int32))] []))
  refine own_go (fun t_ k => XS.iloadN X0.here hx rfl (hb hby d11_9) rfl k) ?_
  show WP p e below _ (s₁.setTop (mkF m 10 #[.val (.ref a1), .val (.ref a2), .val (.int (0 : Int32))] [(.int (0 : Int32))]))
  refine own_go (fun t_ k => XS.aloadN X0.here hx rfl (hb hby d11_10) rfl rfl k) ?_
  show WP p e below _ (s₁.setTop (mkF m 11 #[.val (.ref a1), .val (.ref a2), .val (.int (0 : Int32))] [(.ref a1), (.int (0 : Int32))]))
  obtain ⟨cl4, Ar4, -, S4, M4, -, -⟩ := id (Pf0)
  refine own_go (fun t_ k => X0.arraylength hx (by rw [e0]; exact Ar4.1) (State.isArrayOf_alike hZ.alike Ar4.2.1) (g := (mkF m 11 #[.val (.ref a1), .val (.ref a2), .val (.int (0 : Int32))] [(.ref a1), (.int (0 : Int32))])) rfl rfl (hb hby d11_11) _ (by rw [len_of S4 M4]; exact k)) ?_
  show WP p e below _ (s₁.setTop (mkF m 12 #[.val (.ref a1), .val (.ref a2), .val (.int (0 : Int32))] [(.int (0 : Int32)), (.int (0 : Int32))]))
  have hc12_5 : ¬ ((0 : Int32) < (0 : Int32)) := by decide
  refine own_go (fun t_ k => XS.icmpYes X0.here hx rfl (pc0 := 12) (pc' := 32) rfl (hb hby d11_12) rfl (flt hc12_5).2.1 (by decide) (by decide) k) ?_
  show WP p e below _ (s₁.setTop (mkF m 32 #[.val (.ref a1), .val (.ref a2), .val (.int (0 : Int32))] []))
  refine own_go (fun t_ k => XS.iconst X0.here hx rfl (hb hby d11_32) k) ?_
  show WP p e below _ (s₁.setTop (mkF m 33 #[.val (.ref a1), .val (.ref a2), .val (.int (0 : Int32))] [(.int (1 : Int32))]))
  exact own_retZ X0 hx Bd.notSynchronized Bd.returns (hb hby d11_33) (by decide) (⟨by rw [f_rmLe_0_0], N0, e0⟩) (by decide) (by decide)
def f_rmLe_0_1 (w0 : Int32) : Int32 := (0 : Int32)
def Q_rmLe_0_1 (Z : State) (a1 : Addr) (a2 : Addr) (k1 : ClassId) (k2 : ClassId) (w0 : Int32) (h0 : Heap) (n0 : Nat) (v : Option Value) (h : Heap) (L : List Loc) : Prop := v = some (.int (f_rmLe_0_1 w0)) ∧ Fr n0 L ∧ h = h0
theorem d11_34 : decode jdk_43_method_13_code 34 = .ok (.iconst 0, 1) := by decide +kernel
theorem d11_35 : decode jdk_43_method_13_code 35 = .ok (.ireturn, 1) := by decide +kernel
theorem ef_rmLe_0_1 (m : MethodId) (x0 : Addr) (x1 : Addr) : entryFrame m #[(.ref x0), (.ref x1)] 3 = mkF m 0 #[.val (.ref x0), .val (.ref x1), .unset] [] := by first | (simp [entryFrame, mkF, argsToLocals, Value.category]; done) | rfl
set_option maxRecDepth 65536 in
set_option maxHeartbeats 40000000 in
theorem rmLe_0_1 (l : Launch) (Z : State) (a0 : Array Value) (hw : ∀ d ∈ tables_1, d.before a0 Z = true) (ws : List Jvm.Cond) (a1 : Addr) (a2 : Addr) (k1 : ClassId) (k2 : ClassId) (w0 : Int32) (h0 : Heap) (n0 : Nat) (Pf0 : Arv Z h0 a1 k1 .byte (0 : Int32) [] (.int (0 : Int32))) (Pf1 : Arv Z h0 a2 k2 .byte (1 : Int32) [(.int w0)] (.int (0 : Int32))) :
    MetFree l (⟨"java/lang/StringLatin1", "equals", "([B[B)Z"⟩ : MethodName) (head1 (Jvm.Cond.code (⟨"java/lang/StringLatin1", "equals", "([B[B)Z"⟩ : MethodName) jdk_43_method_13_code 3 (some .boolean) :: ws) ({ frames := 0, cells := 0, slots := 0, locals := 0 } : Room)) (fun a U => a = #[(.ref a1), (.ref a2)] ∧ Z.Warmed39 U.vm ∧ U.heap = h0) (fun _ _ _ _ _ => True) (fun _ U o U' => ∃ v L, o = .returned v ∧ (Q_rmLe_0_1 Z a1 a2 k1 k2 w0 h0 n0) v U'.heap L ∧ FrameEnd U o U' L ({ frames := 0, cells := 0, slots := 0, locals := 0 } : Room).cells ({ frames := 0, cells := 0, slots := 0, locals := 0 } : Room).slots) := by
  refine MetFree.of_bodySF (plainFor_of_name pn_5) hisR ?_
  intro p e s m args below meth c s₁ Bd hml0 hP hK
  obtain ⟨rfl, hZ, hh⟩ := hP
  have hx := Bd.exec
  have hby := Bd.bytes
  have hml : c.maxLocals = 3 := hml0
  have hown : s.vm.findClass "java/lang/StringLatin1" = some m.cls := findClass_of_methodNamed Bd.named
  have hnm := (name_of_methodNamed Bd.named Bd.method).1
  have X0 : Stand p l e ({ frames := 0, cells := 0, slots := 0, locals := 0 } : Room) s m #[(.ref a1), (.ref a2)] below meth c s₁ [] 0 0 := Stand.of_body Bd
  have e0 : s₁.heap = h0 := by rw [← hh, Bd.state]; rfl
  have N0 := Fr.nil n0
  show WP p e below (GG (Q_rmLe_0_1 Z a1 a2 k1 k2 w0 h0 n0) s ({ frames := 0, cells := 0, slots := 0, locals := 0 } : Room).cells ({ frames := 0, cells := 0, slots := 0, locals := 0 } : Room).slots) (s₁.setTop (entryFrame m #[(.ref a1), (.ref a2)] 3))
  rw [ef_rmLe_0_1 m a1 a2]
  show WP p e below _ (s₁.setTop (mkF m 0 #[.val (.ref a1), .val (.ref a2), .unset] []))
  refine own_go (fun t_ k => XS.aloadN X0.here hx rfl (hb hby d11_0) rfl rfl k) ?_
  show WP p e below _ (s₁.setTop (mkF m 1 #[.val (.ref a1), .val (.ref a2), .unset] [(.ref a1)]))
  obtain ⟨cl1, Ar1, -, S1, M1, -, -⟩ := id (Pf0)
  refine own_go (fun t_ k => X0.arraylength hx (by rw [e0]; exact Ar1.1) (State.isArrayOf_alike hZ.alike Ar1.2.1) (g := (mkF m 1 #[.val (.ref a1), .val (.ref a2), .unset] [(.ref a1)])) rfl rfl (hb hby d11_1) _ (by rw [len_of S1 M1]; exact k)) ?_
  show WP p e below _ (s₁.setTop (mkF m 2 #[.val (.ref a1), .val (.ref a2), .unset] [(.int (0 : Int32))]))
  refine own_go (fun t_ k => XS.aloadN X0.here hx rfl (hb hby d11_2) rfl rfl k) ?_
  show WP p e below _ (s₁.setTop (mkF m 3 #[.val (.ref a1), .val (.ref a2), .unset] [(.ref a2), (.int (0 : Int32))]))
  obtain ⟨cl2, Ar2, -, S2, M2, -, -⟩ := id (Pf1)
  refine own_go (fun t_ k => X0.arraylength hx (by rw [e0]; exact Ar2.1) (State.isArrayOf_alike hZ.alike Ar2.2.1) (g := (mkF m 3 #[.val (.ref a1), .val (.ref a2), .unset] [(.ref a2), (.int (0 : Int32))])) rfl rfl (hb hby d11_3) _ (by rw [len_of S2 M2]; exact k)) ?_
  show WP p e below _ (s₁.setTop (mkF m 4 #[.val (.ref a1), .val (.ref a2), .unset] [(.int (1 : Int32)), (.int (0 : Int32))]))
  have hc4_3 : ¬ ((0 : Int32) = (1 : Int32)) := by decide
  refine own_go (fun t_ k => XS.icmpYes X0.here hx rfl (pc0 := 4) (pc' := 34) rfl (hb hby d11_4) rfl (feq hc4_3).2 (by decide) (by decide) k) ?_
  show WP p e below _ (s₁.setTop (mkF m 34 #[.val (.ref a1), .val (.ref a2), .unset] []))
  refine own_go (fun t_ k => XS.iconst X0.here hx rfl (hb hby d11_34) k) ?_
  show WP p e below _ (s₁.setTop (mkF m 35 #[.val (.ref a1), .val (.ref a2), .unset] [(.int (0 : Int32))]))
  exact own_retZ X0 hx Bd.notSynchronized Bd.returns (hb hby d11_35) (by decide) (⟨by rw [f_rmLe_0_1], N0, e0⟩) (by decide) (by decide)
def f_rmLe_0_2 (w0 : Int32) (w1 : Int32) : Int32 := (0 : Int32)
def Q_rmLe_0_2 (Z : State) (a1 : Addr) (a2 : Addr) (k1 : ClassId) (k2 : ClassId) (w0 : Int32) (w1 : Int32) (h0 : Heap) (n0 : Nat) (v : Option Value) (h : Heap) (L : List Loc) : Prop := v = some (.int (f_rmLe_0_2 w0 w1)) ∧ Fr n0 L ∧ h = h0
theorem ef_rmLe_0_2 (m : MethodId) (x0 : Addr) (x1 : Addr) : entryFrame m #[(.ref x0), (.ref x1)] 3 = mkF m 0 #[.val (.ref x0), .val (.ref x1), .unset] [] := by first | (simp [entryFrame, mkF, argsToLocals, Value.category]; done) | rfl
set_option maxRecDepth 65536 in
set_option maxHeartbeats 40000000 in
theorem rmLe_0_2 (l : Launch) (Z : State) (a0 : Array Value) (hw : ∀ d ∈ tables_1, d.before a0 Z = true) (ws : List Jvm.Cond) (a1 : Addr) (a2 : Addr) (k1 : ClassId) (k2 : ClassId) (w0 : Int32) (w1 : Int32) (h0 : Heap) (n0 : Nat) (Pf0 : Arv Z h0 a1 k1 .byte (0 : Int32) [] (.int (0 : Int32))) (Pf1 : Arv Z h0 a2 k2 .byte (2 : Int32) [(.int w0), (.int w1)] (.int (0 : Int32))) :
    MetFree l (⟨"java/lang/StringLatin1", "equals", "([B[B)Z"⟩ : MethodName) (head1 (Jvm.Cond.code (⟨"java/lang/StringLatin1", "equals", "([B[B)Z"⟩ : MethodName) jdk_43_method_13_code 3 (some .boolean) :: ws) ({ frames := 0, cells := 0, slots := 0, locals := 0 } : Room)) (fun a U => a = #[(.ref a1), (.ref a2)] ∧ Z.Warmed39 U.vm ∧ U.heap = h0) (fun _ _ _ _ _ => True) (fun _ U o U' => ∃ v L, o = .returned v ∧ (Q_rmLe_0_2 Z a1 a2 k1 k2 w0 w1 h0 n0) v U'.heap L ∧ FrameEnd U o U' L ({ frames := 0, cells := 0, slots := 0, locals := 0 } : Room).cells ({ frames := 0, cells := 0, slots := 0, locals := 0 } : Room).slots) := by
  refine MetFree.of_bodySF (plainFor_of_name pn_5) hisR ?_
  intro p e s m args below meth c s₁ Bd hml0 hP hK
  obtain ⟨rfl, hZ, hh⟩ := hP
  have hx := Bd.exec
  have hby := Bd.bytes
  have hml : c.maxLocals = 3 := hml0
  have hown : s.vm.findClass "java/lang/StringLatin1" = some m.cls := findClass_of_methodNamed Bd.named
  have hnm := (name_of_methodNamed Bd.named Bd.method).1
  have X0 : Stand p l e ({ frames := 0, cells := 0, slots := 0, locals := 0 } : Room) s m #[(.ref a1), (.ref a2)] below meth c s₁ [] 0 0 := Stand.of_body Bd
  have e0 : s₁.heap = h0 := by rw [← hh, Bd.state]; rfl
  have N0 := Fr.nil n0
  show WP p e below (GG (Q_rmLe_0_2 Z a1 a2 k1 k2 w0 w1 h0 n0) s ({ frames := 0, cells := 0, slots := 0, locals := 0 } : Room).cells ({ frames := 0, cells := 0, slots := 0, locals := 0 } : Room).slots) (s₁.setTop (entryFrame m #[(.ref a1), (.ref a2)] 3))
  rw [ef_rmLe_0_2 m a1 a2]
  show WP p e below _ (s₁.setTop (mkF m 0 #[.val (.ref a1), .val (.ref a2), .unset] []))
  refine own_go (fun t_ k => XS.aloadN X0.here hx rfl (hb hby d11_0) rfl rfl k) ?_
  show WP p e below _ (s₁.setTop (mkF m 1 #[.val (.ref a1), .val (.ref a2), .unset] [(.ref a1)]))
  obtain ⟨cl1, Ar1, -, S1, M1, -, -⟩ := id (Pf0)
  refine own_go (fun t_ k => X0.arraylength hx (by rw [e0]; exact Ar1.1) (State.isArrayOf_alike hZ.alike Ar1.2.1) (g := (mkF m 1 #[.val (.ref a1), .val (.ref a2), .unset] [(.ref a1)])) rfl rfl (hb hby d11_1) _ (by rw [len_of S1 M1]; exact k)) ?_
  show WP p e below _ (s₁.setTop (mkF m 2 #[.val (.ref a1), .val (.ref a2), .unset] [(.int (0 : Int32))]))
  refine own_go (fun t_ k => XS.aloadN X0.here hx rfl (hb hby d11_2) rfl rfl k) ?_
  show WP p e below _ (s₁.setTop (mkF m 3 #[.val (.ref a1), .val (.ref a2), .unset] [(.ref a2), (.int (0 : Int32))]))
  obtain ⟨cl2, Ar2, -, S2, M2, -, -⟩ := id (Pf1)
  refine own_go (fun t_ k => X0.arraylength hx (by rw [e0]; exact Ar2.1) (State.isArrayOf_alike hZ.alike Ar2.2.1) (g := (mkF m 3 #[.val (.ref a1), .val (.ref a2), .unset] [(.ref a2), (.int (0 : Int32))])) rfl rfl (hb hby d11_3) _ (by rw [len_of S2 M2]; exact k)) ?_
  show WP p e below _ (s₁.setTop (mkF m 4 #[.val (.ref a1), .val (.ref a2), .unset] [(.int (2 : Int32)), (.int (0 : Int32))]))
  have hc4_3 : ¬ ((0 : Int32) = (2 : Int32)) := by decide
  refine own_go (fun t_ k => XS.icmpYes X0.here hx rfl (pc0 := 4) (pc' := 34) rfl (hb hby d11_4) rfl (feq hc4_3).2 (by decide) (by decide) k) ?_
  show WP p e below _ (s₁.setTop (mkF m 34 #[.val (.ref a1), .val (.ref a2), .unset] []))
  refine own_go (fun t_ k => XS.iconst X0.here hx rfl (hb hby d11_34) k) ?_
  show WP p e below _ (s₁.setTop (mkF m 35 #[.val (.ref a1), .val (.ref a2), .unset] [(.int (0 : Int32))]))
  exact own_retZ X0 hx Bd.notSynchronized Bd.returns (hb hby d11_35) (by decide) (⟨by rw [f_rmLe_0_2], N0, e0⟩) (by decide) (by decide)
def f_rmLe_1_0 (u0 : Int32) : Int32 := (0 : Int32)
def Q_rmLe_1_0 (Z : State) (a1 : Addr) (a2 : Addr) (k1 : ClassId) (k2 : ClassId) (u0 : Int32) (h0 : Heap) (n0 : Nat) (v : Option Value) (h : Heap) (L : List Loc) : Prop := v = some (.int (f_rmLe_1_0 u0)) ∧ Fr n0 L ∧ h = h0
theorem ef_rmLe_1_0 (m : MethodId) (x0 : Addr) (x1 : Addr) : entryFrame m #[(.ref x0), (.ref x1)] 3 = mkF m 0 #[.val (.ref x0), .val (.ref x1), .unset] [] := by first | (simp [entryFrame, mkF, argsToLocals, Value.category]; done) | rfl
set_option maxRecDepth 65536 in
set_option maxHeartbeats 40000000 in
theorem rmLe_1_0 (l : Launch) (Z : State) (a0 : Array Value) (hw : ∀ d ∈ tables_1, d.before a0 Z = true) (ws : List Jvm.Cond) (a1 : Addr) (a2 : Addr) (k1 : ClassId) (k2 : ClassId) (u0 : Int32) (h0 : Heap) (n0 : Nat) (Pf0 : Arv Z h0 a1 k1 .byte (1 : Int32) [(.int u0)] (.int (0 : Int32))) (Pf1 : Arv Z h0 a2 k2 .byte (0 : Int32) [] (.int (0 : Int32))) :
    MetFree l (⟨"java/lang/StringLatin1", "equals", "([B[B)Z"⟩ : MethodName) (head1 (Jvm.Cond.code (⟨"java/lang/StringLatin1", "equals", "([B[B)Z"⟩ : MethodName) jdk_43_method_13_code 3 (some .boolean) :: ws) ({ frames := 0, cells := 0, slots := 0, locals := 0 } : Room)) (fun a U => a = #[(.ref a1), (.ref a2)] ∧ Z.Warmed39 U.vm ∧ U.heap = h0) (fun _ _ _ _ _ => True) (fun _ U o U' => ∃ v L, o = .returned v ∧ (Q_rmLe_1_0 Z a1 a2 k1 k2 u0 h0 n0) v U'.heap L ∧ FrameEnd U o U' L ({ frames := 0, cells := 0, slots := 0, locals := 0 } : Room).cells ({ frames := 0, cells := 0, slots := 0, locals := 0 } : Room).slots) := by
  refine MetFree.of_bodySF (plainFor_of_name pn_5) hisR ?_
  intro p e s m args below meth c s₁ Bd hml0 hP hK
  obtain ⟨rfl, hZ, hh⟩ := hP
  have hx := Bd.exec
  have hby := Bd.bytes
  have hml : c.maxLocals = 3 := hml0
  have hown : s.vm.findClass "java/lang/StringLatin1" = some m.cls := findClass_of_methodNamed Bd.named
  have hnm := (name_of_methodNamed Bd.named Bd.method).1
  have X0 : Stand p l e ({ frames := 0, cells := 0, slots := 0, locals := 0 } : Room) s m #[(.ref a1), (.ref a2)] below meth c s₁ [] 0 0 := Stand.of_body Bd
  have e0 : s₁.heap = h0 := by rw [← hh, Bd.state]; rfl
  have N0 := Fr.nil n0
  show WP p e below (GG (Q_rmLe_1_0 Z a1 a2 k1 k2 u0 h0 n0) s ({ frames := 0, cells := 0, slots := 0, locals := 0 } : Room).cells ({ frames := 0, cells := 0, slots := 0, locals := 0 } : Room).slots) (s₁.setTop (entryFrame m #[(.ref a1), (.ref a2)] 3))
  rw [ef_rmLe_1_0 m a1 a2]
  show WP p e below _ (s₁.setTop (mkF m 0 #[.val (.ref a1), .val (.ref a2), .unset] []))
  refine own_go (fun t_ k => XS.aloadN X0.here hx rfl (hb hby d11_0) rfl rfl k) ?_
  show WP p e below _ (s₁.setTop (mkF m 1 #[.val (.ref a1), .val (.ref a2), .unset] [(.ref a1)]))
  obtain ⟨cl1, Ar1, -, S1, M1, -, -⟩ := id (Pf0)
  refine own_go (fun t_ k => X0.arraylength hx (by rw [e0]; exact Ar1.1) (State.isArrayOf_alike hZ.alike Ar1.2.1) (g := (mkF m 1 #[.val (.ref a1), .val (.ref a2), .unset] [(.ref a1)])) rfl rfl (hb hby d11_1) _ (by rw [len_of S1 M1]; exact k)) ?_
  show WP p e below _ (s₁.setTop (mkF m 2 #[.val (.ref a1), .val (.ref a2), .unset] [(.int (1 : Int32))]))
  refine own_go (fun t_ k => XS.aloadN X0.here hx rfl (hb hby d11_2) rfl rfl k) ?_
  show WP p e below _ (s₁.setTop (mkF m 3 #[.val (.ref a1), .val (.ref a2), .unset] [(.ref a2), (.int (1 : Int32))]))
  obtain ⟨cl2, Ar2, -, S2, M2, -, -⟩ := id (Pf1)
  refine own_go (fun t_ k => X0.arraylength hx (by rw [e0]; exact Ar2.1) (State.isArrayOf_alike hZ.alike Ar2.2.1) (g := (mkF m 3 #[.val (.ref a1), .val (.ref a2), .unset] [(.ref a2), (.int (1 : Int32))])) rfl rfl (hb hby d11_3) _ (by rw [len_of S2 M2]; exact k)) ?_
  show WP p e below _ (s₁.setTop (mkF m 4 #[.val (.ref a1), .val (.ref a2), .unset] [(.int (0 : Int32)), (.int (1 : Int32))]))
  have hc4_3 : ¬ ((1 : Int32) = (0 : Int32)) := by decide
  refine own_go (fun t_ k => XS.icmpYes X0.here hx rfl (pc0 := 4) (pc' := 34) rfl (hb hby d11_4) rfl (feq hc4_3).2 (by decide) (by decide) k) ?_
  show WP p e below _ (s₁.setTop (mkF m 34 #[.val (.ref a1), .val (.ref a2), .unset] []))
  refine own_go (fun t_ k => XS.iconst X0.here hx rfl (hb hby d11_34) k) ?_
  show WP p e below _ (s₁.setTop (mkF m 35 #[.val (.ref a1), .val (.ref a2), .unset] [(.int (0 : Int32))]))
  exact own_retZ X0 hx Bd.notSynchronized Bd.returns (hb hby d11_35) (by decide) (⟨by rw [f_rmLe_1_0], N0, e0⟩) (by decide) (by decide)
def f_rmLe_1_1 (u0 : Int32) (w0 : Int32) : Int32 := (if u0 = w0 then (1 : Int32) else (0 : Int32))
def Q_rmLe_1_1 (Z : State) (a1 : Addr) (a2 : Addr) (k1 : ClassId) (k2 : ClassId) (u0 : Int32) (w0 : Int32) (h0 : Heap) (n0 : Nat) (v : Option Value) (h : Heap) (L : List Loc) : Prop := v = some (.int (f_rmLe_1_1 u0 w0)) ∧ Fr n0 L ∧ h = h0
theorem d11_15 : decode jdk_43_method_13_code 15 = .ok (.aload_n 0, 1) := by decide +kernel
theorem d11_16 : decode jdk_43_method_13_code 16 = .ok (.iload_n 2, 1) := by decide +kernel
theorem d11_17 : decode jdk_43_method_13_code 17 = .ok (.baload, 1) := by decide +kernel
theorem d11_18 : decode jdk_43_method_13_code 18 = .ok (.aload_n 1, 1) := by decide +kernel
theorem d11_19 : decode jdk_43_method_13_code 19 = .ok (.iload_n 2, 1) := by decide +kernel
theorem d11_20 : decode jdk_43_method_13_code 20 = .ok (.baload, 1) := by decide +kernel
theorem d11_21 : decode jdk_43_method_13_code 21 = .ok (.if_icmp .eq 5, 3) := by decide +kernel
theorem d11_24 : decode jdk_43_method_13_code 24 = .ok (.iconst 0, 1) := by decide +kernel
theorem d11_25 : decode jdk_43_method_13_code 25 = .ok (.ireturn, 1) := by decide +kernel
theorem d11_26 : decode jdk_43_method_13_code 26 = .ok (.iinc 2 1, 3) := by decide +kernel
theorem d11_29 : decode jdk_43_method_13_code 29 = .ok (.goto (-20), 3) := by decide +kernel
theorem ef_rmLe_1_1 (m : MethodId) (x0 : Addr) (x1 : Addr) : entryFrame m #[(.ref x0), (.ref x1)] 3 = mkF m 0 #[.val (.ref x0), .val (.ref x1), .unset] [] := by first | (simp [entryFrame, mkF, argsToLocals, Value.category]; done) | rfl
set_option maxRecDepth 65536 in
set_option maxHeartbeats 40000000 in
theorem rmLe_1_1 (l : Launch) (Z : State) (a0 : Array Value) (hw : ∀ d ∈ tables_1, d.before a0 Z = true) (ws : List Jvm.Cond) (a1 : Addr) (a2 : Addr) (k1 : ClassId) (k2 : ClassId) (u0 : Int32) (w0 : Int32) (h0 : Heap) (n0 : Nat) (Pf0 : Arv Z h0 a1 k1 .byte (1 : Int32) [(.int u0)] (.int (0 : Int32))) (Pf1 : Arv Z h0 a2 k2 .byte (1 : Int32) [(.int w0)] (.int (0 : Int32))) :
    MetFree l (⟨"java/lang/StringLatin1", "equals", "([B[B)Z"⟩ : MethodName) (head1 (Jvm.Cond.code (⟨"java/lang/StringLatin1", "equals", "([B[B)Z"⟩ : MethodName) jdk_43_method_13_code 3 (some .boolean) :: ws) ({ frames := 0, cells := 0, slots := 0, locals := 0 } : Room)) (fun a U => a = #[(.ref a1), (.ref a2)] ∧ Z.Warmed39 U.vm ∧ U.heap = h0) (fun _ _ _ _ _ => True) (fun _ U o U' => ∃ v L, o = .returned v ∧ (Q_rmLe_1_1 Z a1 a2 k1 k2 u0 w0 h0 n0) v U'.heap L ∧ FrameEnd U o U' L ({ frames := 0, cells := 0, slots := 0, locals := 0 } : Room).cells ({ frames := 0, cells := 0, slots := 0, locals := 0 } : Room).slots) := by
  refine MetFree.of_bodySF (plainFor_of_name pn_5) hisR ?_
  intro p e s m args below meth c s₁ Bd hml0 hP hK
  obtain ⟨rfl, hZ, hh⟩ := hP
  have hx := Bd.exec
  have hby := Bd.bytes
  have hml : c.maxLocals = 3 := hml0
  have hown : s.vm.findClass "java/lang/StringLatin1" = some m.cls := findClass_of_methodNamed Bd.named
  have hnm := (name_of_methodNamed Bd.named Bd.method).1
  have X0 : Stand p l e ({ frames := 0, cells := 0, slots := 0, locals := 0 } : Room) s m #[(.ref a1), (.ref a2)] below meth c s₁ [] 0 0 := Stand.of_body Bd
  have e0 : s₁.heap = h0 := by rw [← hh, Bd.state]; rfl
  have N0 := Fr.nil n0
  show WP p e below (GG (Q_rmLe_1_1 Z a1 a2 k1 k2 u0 w0 h0 n0) s ({ frames := 0, cells := 0, slots := 0, locals := 0 } : Room).cells ({ frames := 0, cells := 0, slots := 0, locals := 0 } : Room).slots) (s₁.setTop (entryFrame m #[(.ref a1), (.ref a2)] 3))
  rw [ef_rmLe_1_1 m a1 a2]
  show WP p e below _ (s₁.setTop (mkF m 0 #[.val (.ref a1), .val (.ref a2), .unset] []))
  refine own_go (fun t_ k => XS.aloadN X0.here hx rfl (hb hby d11_0) rfl rfl k) ?_
  show WP p e below _ (s₁.setTop (mkF m 1 #[.val (.ref a1), .val (.ref a2), .unset] [(.ref a1)]))
  obtain ⟨cl1, Ar1, -, S1, M1, -, -⟩ := id (Pf0)
  refine own_go (fun t_ k => X0.arraylength hx (by rw [e0]; exact Ar1.1) (State.isArrayOf_alike hZ.alike Ar1.2.1) (g := (mkF m 1 #[.val (.ref a1), .val (.ref a2), .unset] [(.ref a1)])) rfl rfl (hb hby d11_1) _ (by rw [len_of S1 M1]; exact k)) ?_
  show WP p e below _ (s₁.setTop (mkF m 2 #[.val (.ref a1), .val (.ref a2), .unset] [(.int (1 : Int32))]))
  refine own_go (fun t_ k => XS.aloadN X0.here hx rfl (hb hby d11_2) rfl rfl k) ?_
  show WP p e below _ (s₁.setTop (mkF m 3 #[.val (.ref a1), .val (.ref a2), .unset] [(.ref a2), (.int (1 : Int32))]))
  obtain ⟨cl2, Ar2, -, S2, M2, -, -⟩ := id (Pf1)
  refine own_go (fun t_ k => X0.arraylength hx (by rw [e0]; exact Ar2.1) (State.isArrayOf_alike hZ.alike Ar2.2.1) (g := (mkF m 3 #[.val (.ref a1), .val (.ref a2), .unset] [(.ref a2), (.int (1 : Int32))])) rfl rfl (hb hby d11_3) _ (by rw [len_of S2 M2]; exact k)) ?_
  show WP p e below _ (s₁.setTop (mkF m 4 #[.val (.ref a1), .val (.ref a2), .unset] [(.int (1 : Int32)), (.int (1 : Int32))]))
  have hc4_3 : ((1 : Int32) = (1 : Int32)) := by decide
  refine own_go (fun t_ k => XS.icmpNo X0.here hx rfl (hb hby d11_4) rfl (teq hc4_3).2 k) ?_
  show WP p e below _ (s₁.setTop (mkF m 7 #[.val (.ref a1), .val (.ref a2), .unset] []))
  refine own_go (fun t_ k => XS.iconst X0.here hx rfl (hb hby d11_7) k) ?_
  show WP p e below _ (s₁.setTop (mkF m 8 #[.val (.ref a1), .val (.ref a2), .unset] [(.int (0 : Int32))]))
  refine own_go (fun t_ k => XS.istoreN X0.here hx rfl (hb hby d11_8) rfl (l' := #[.val (.ref a1), .val (.ref a2), .val (.int (0 : Int32))]) rfl k) ?_
  show WP p e below _ (s₁.setTop (mkF m 9 #[.val (.ref a1), .val (.ref a2), .val (.int (0 : Int32))] []))
  refine own_go (fun t_ k => XS.iloadN X0.here hx rfl (hb hby d11_9) rfl k) ?_
  show WP p e below _ (s₁.setTop (mkF m 10 #[.val (.ref a1), .val (.ref a2), .val (.int (0 : Int32))] [(.int (0 : Int32))]))
  refine own_go (fun t_ k => XS.aloadN X0.here hx rfl (hb hby d11_10) rfl rfl k) ?_
  show WP p e below _ (s₁.setTop (mkF m 11 #[.val (.ref a1), .val (.ref a2), .val (.int (0 : Int32))] [(.ref a1), (.int (0 : Int32))]))
  obtain ⟨cl4, Ar4, -, S4, M4, -, -⟩ := id (Pf0)
  refine own_go (fun t_ k => X0.arraylength hx (by rw [e0]; exact Ar4.1) (State.isArrayOf_alike hZ.alike Ar4.2.1) (g := (mkF m 11 #[.val (.ref a1), .val (.ref a2), .val (.int (0 : Int32))] [(.ref a1), (.int (0 : Int32))])) rfl rfl (hb hby d11_11) _ (by rw [len_of S4 M4]; exact k)) ?_
  show WP p e below _ (s₁.setTop (mkF m 12 #[.val (.ref a1), .val (.ref a2), .val (.int (0 : Int32))] [(.int (1 : Int32)), (.int (0 : Int32))]))
  have hc12_5 : ((0 : Int32) < (1 : Int32)) := by decide
  refine own_go (fun t_ k => XS.icmpNo X0.here hx rfl (hb hby d11_12) rfl (tlt hc12_5).2.1 k) ?_
  show WP p e below _ (s₁.setTop (mkF m 15 #[.val (.ref a1), .val (.ref a2), .val (.int (0 : Int32))] []))
  refine own_go (fun t_ k => XS.aloadN X0.here hx rfl (hb hby d11_15) rfl rfl k) ?_
  show WP p e below _ (s₁.setTop (mkF m 16 #[.val (.ref a1), .val (.ref a2), .val (.int (0 : Int32))] [(.ref a1)]))
  refine own_go (fun t_ k => XS.iloadN X0.here hx rfl (hb hby d11_16) rfl k) ?_
  show WP p e below _ (s₁.setTop (mkF m 17 #[.val (.ref a1), .val (.ref a2), .val (.int (0 : Int32))] [(.int (0 : Int32)), (.ref a1)]))
  obtain ⟨cl6, Ar6, -, S6, M6, H6, -⟩ := id (Pf0)
  have hin6 : ¬ ((0 : Int32) < 0 ∨ cl6.slots.size ≤ ((0 : Int32)).toNatClampNeg) := inb_of S6 (⟨by decide, by decide⟩)
  refine own_go (fun t_ k => X0.baloadBytes hx (j := (0 : Int32)) (v := (.int u0)) (by rw [e0]; exact Ar6.1) (State.isArrayOf_alike hZ.alike Ar6.2.1) Ar6.2.2 hin6 (H6.at hin6 rfl) (g := (mkF m 17 #[.val (.ref a1), .val (.ref a2), .val (.int (0 : Int32))] [(.int (0 : Int32)), (.ref a1)])) rfl rfl (hb hby d11_17) _ k) ?_
  show WP p e below _ (s₁.setTop (mkF m 18 #[.val (.ref a1), .val (.ref a2), .val (.int (0 : Int32))] [(.int u0)]))
  refine own_go (fun t_ k => XS.aloadN X0.here hx rfl (hb hby d11_18) rfl rfl k) ?_
  show WP p e below _ (s₁.setTop (mkF m 19 #[.val (.ref a1), .val (.ref a2), .val (.int (0 : Int32))] [(.ref a2), (.int u0)]))
  refine own_go (fun t_ k => XS.iloadN X0.here hx rfl (hb hby d11_19) rfl k) ?_
  show WP p e below _ (s₁.setTop (mkF m 20 #[.val (.ref a1), .val (.ref a2), .val (.int (0 : Int32))] [(.int (0 : Int32)), (.ref a2), (.int u0)]))
  obtain ⟨cl7, Ar7, -, S7, M7, H7, -⟩ := id (Pf1)
  have hin7 : ¬ ((0 : Int32) < 0 ∨ cl7.slots.size ≤ ((0 : Int32)).toNatClampNeg) := inb_of S7 (⟨by decide, by decide⟩)
  refine own_go (fun t_ k => X0.baloadBytes hx (j := (0 : Int32)) (v := (.int w0)) (by rw [e0]; exact Ar7.1) (State.isArrayOf_alike hZ.alike Ar7.2.1) Ar7.2.2 hin7 (H7.at hin7 rfl) (g := (mkF m 20 #[.val (.ref a1), .val (.ref a2), .val (.int (0 : Int32))] [(.int (0 : Int32)), (.ref a2), (.int u0)])) rfl rfl (hb hby d11_20) _ k) ?_
  show WP p e below _ (s₁.setTop (mkF m 21 #[.val (.ref a1), .val (.ref a2), .val (.int (0 : Int32))] [(.int w0), (.int u0)]))
  by_cases hc21_8 : u0 = w0
  · refine own_go (fun t_ k => XS.icmpYes X0.here hx rfl (pc0 := 21) (pc' := 26) rfl (hb hby d11_21) rfl (teq hc21_8).1 (by decide) (by decide) k) ?_
    show WP p e below _ (s₁.setTop (mkF m 26 #[.val (.ref a1), .val (.ref a2), .val (.int (0 : Int32))] []))
    refine own_go (fun t_ k => XS.iinc X0.here hx rfl (hb hby d11_26) rfl (l' := #[.val (.ref a1), .val (.ref a2), .val (.int (1 : Int32))]) rfl k) ?_
    show WP p e below _ (s₁.setTop (mkF m 29 #[.val (.ref a1), .val (.ref a2), .val (.int (1 : Int32))] []))
    refine own_go (fun t_ k => XS.goto X0.here hx rfl (pc0 := 29) (pc' := 9) rfl (hb hby d11_29) (by decide) (by decide) k) ?_
    show WP p e below _ (s₁.setTop (mkF m 9 #[.val (.ref a1), .val (.ref a2), .val (.int (1 : Int32))] []))
    refine own_go (fun t_ k => XS.iloadN X0.here hx rfl (hb hby d11_9) rfl k) ?_
    show WP p e below _ (s₁.setTop (mkF m 10 #[.val (.ref a1), .val (.ref a2), .val (.int (1 : Int32))] [(.int (1 : Int32))]))
    refine own_go (fun t_ k => XS.aloadN X0.here hx rfl (hb hby d11_10) rfl rfl k) ?_
    show WP p e below _ (s₁.setTop (mkF m 11 #[.val (.ref a1), .val (.ref a2), .val (.int (1 : Int32))] [(.ref a1), (.int (1 : Int32))]))
    obtain ⟨cl9, Ar9, -, S9, M9, -, -⟩ := id (Pf0)
    refine own_go (fun t_ k => X0.arraylength hx (by rw [e0]; exact Ar9.1) (State.isArrayOf_alike hZ.alike Ar9.2.1) (g := (mkF m 11 #[.val (.ref a1), .val (.ref a2), .val (.int (1 : Int32))] [(.ref a1), (.int (1 : Int32))])) rfl rfl (hb hby d11_11) _ (by rw [len_of S9 M9]; exact k)) ?_
    show WP p e below _ (s₁.setTop (mkF m 12 #[.val (.ref a1), .val (.ref a2), .val (.int (1 : Int32))] [(.int (1 : Int32)), (.int (1 : Int32))]))
    have hc12_10 : ¬ ((1 : Int32) < (1 : Int32)) := by decide
    refine own_go (fun t_ k => XS.icmpYes X0.here hx rfl (pc0 := 12) (pc' := 32) rfl (hb hby d11_12) rfl (flt hc12_10).2.1 (by decide) (by decide) k) ?_
    show WP p e below _ (s₁.setTop (mkF m 32 #[.val (.ref a1), .val (.ref a2), .val (.int (1 : Int32))] []))
    refine own_go (fun t_ k => XS.iconst X0.here hx rfl (hb hby d11_32) k) ?_
    show WP p e below _ (s₁.setTop (mkF m 33 #[.val (.ref a1), .val (.ref a2), .val (.int (1 : Int32))] [(.int (1 : Int32))]))
    exact own_retZ X0 hx Bd.notSynchronized Bd.returns (hb hby d11_33) (by decide) (⟨by rw [f_rmLe_1_1, if_pos hc21_8], N0, e0⟩) (by decide) (by decide)
  · refine own_go (fun t_ k => XS.icmpNo X0.here hx rfl (hb hby d11_21) rfl (feq hc21_8).1 k) ?_
    show WP p e below _ (s₁.setTop (mkF m 24 #[.val (.ref a1), .val (.ref a2), .val (.int (0 : Int32))] []))
    refine own_go (fun t_ k => XS.iconst X0.here hx rfl (hb hby d11_24) k) ?_
    show WP p e below _ (s₁.setTop (mkF m 25 #[.val (.ref a1), .val (.ref a2), .val (.int (0 : Int32))] [(.int (0 : Int32))]))
    exact own_retZ X0 hx Bd.notSynchronized Bd.returns (hb hby d11_25) (by decide) (⟨by rw [f_rmLe_1_1, if_neg hc21_8], N0, e0⟩) (by decide) (by decide)
def f_rmLe_1_2 (u0 : Int32) (w0 : Int32) (w1 : Int32) : Int32 := (0 : Int32)
def Q_rmLe_1_2 (Z : State) (a1 : Addr) (a2 : Addr) (k1 : ClassId) (k2 : ClassId) (u0 : Int32) (w0 : Int32) (w1 : Int32) (h0 : Heap) (n0 : Nat) (v : Option Value) (h : Heap) (L : List Loc) : Prop := v = some (.int (f_rmLe_1_2 u0 w0 w1)) ∧ Fr n0 L ∧ h = h0
theorem ef_rmLe_1_2 (m : MethodId) (x0 : Addr) (x1 : Addr) : entryFrame m #[(.ref x0), (.ref x1)] 3 = mkF m 0 #[.val (.ref x0), .val (.ref x1), .unset] [] := by first | (simp [entryFrame, mkF, argsToLocals, Value.category]; done) | rfl
set_option maxRecDepth 65536 in
set_option maxHeartbeats 40000000 in
theorem rmLe_1_2 (l : Launch) (Z : State) (a0 : Array Value) (hw : ∀ d ∈ tables_1, d.before a0 Z = true) (ws : List Jvm.Cond) (a1 : Addr) (a2 : Addr) (k1 : ClassId) (k2 : ClassId) (u0 : Int32) (w0 : Int32) (w1 : Int32) (h0 : Heap) (n0 : Nat) (Pf0 : Arv Z h0 a1 k1 .byte (1 : Int32) [(.int u0)] (.int (0 : Int32))) (Pf1 : Arv Z h0 a2 k2 .byte (2 : Int32) [(.int w0), (.int w1)] (.int (0 : Int32))) :
    MetFree l (⟨"java/lang/StringLatin1", "equals", "([B[B)Z"⟩ : MethodName) (head1 (Jvm.Cond.code (⟨"java/lang/StringLatin1", "equals", "([B[B)Z"⟩ : MethodName) jdk_43_method_13_code 3 (some .boolean) :: ws) ({ frames := 0, cells := 0, slots := 0, locals := 0 } : Room)) (fun a U => a = #[(.ref a1), (.ref a2)] ∧ Z.Warmed39 U.vm ∧ U.heap = h0) (fun _ _ _ _ _ => True) (fun _ U o U' => ∃ v L, o = .returned v ∧ (Q_rmLe_1_2 Z a1 a2 k1 k2 u0 w0 w1 h0 n0) v U'.heap L ∧ FrameEnd U o U' L ({ frames := 0, cells := 0, slots := 0, locals := 0 } : Room).cells ({ frames := 0, cells := 0, slots := 0, locals := 0 } : Room).slots) := by
  refine MetFree.of_bodySF (plainFor_of_name pn_5) hisR ?_
  intro p e s m args below meth c s₁ Bd hml0 hP hK
  obtain ⟨rfl, hZ, hh⟩ := hP
  have hx := Bd.exec
  have hby := Bd.bytes
  have hml : c.maxLocals = 3 := hml0
  have hown : s.vm.findClass "java/lang/StringLatin1" = some m.cls := findClass_of_methodNamed Bd.named
  have hnm := (name_of_methodNamed Bd.named Bd.method).1
  have X0 : Stand p l e ({ frames := 0, cells := 0, slots := 0, locals := 0 } : Room) s m #[(.ref a1), (.ref a2)] below meth c s₁ [] 0 0 := Stand.of_body Bd
  have e0 : s₁.heap = h0 := by rw [← hh, Bd.state]; rfl
  have N0 := Fr.nil n0
  show WP p e below (GG (Q_rmLe_1_2 Z a1 a2 k1 k2 u0 w0 w1 h0 n0) s ({ frames := 0, cells := 0, slots := 0, locals := 0 } : Room).cells ({ frames := 0, cells := 0, slots := 0, locals := 0 } : Room).slots) (s₁.setTop (entryFrame m #[(.ref a1), (.ref a2)] 3))
  rw [ef_rmLe_1_2 m a1 a2]
  show WP p e below _ (s₁.setTop (mkF m 0 #[.val (.ref a1), .val (.ref a2), .unset] []))
  refine own_go (fun t_ k => XS.aloadN X0.here hx rfl (hb hby d11_0) rfl rfl k) ?_
  show WP p e below _ (s₁.setTop (mkF m 1 #[.val (.ref a1), .val (.ref a2), .unset] [(.ref a1)]))
  obtain ⟨cl1, Ar1, -, S1, M1, -, -⟩ := id (Pf0)
  refine own_go (fun t_ k => X0.arraylength hx (by rw [e0]; exact Ar1.1) (State.isArrayOf_alike hZ.alike Ar1.2.1) (g := (mkF m 1 #[.val (.ref a1), .val (.ref a2), .unset] [(.ref a1)])) rfl rfl (hb hby d11_1) _ (by rw [len_of S1 M1]; exact k)) ?_
  show WP p e below _ (s₁.setTop (mkF m 2 #[.val (.ref a1), .val (.ref a2), .unset] [(.int (1 : Int32))]))
  refine own_go (fun t_ k => XS.aloadN X0.here hx rfl (hb hby d11_2) rfl rfl k) ?_
  show WP p e below _ (s₁.setTop (mkF m 3 #[.val (.ref a1), .val (.ref a2), .unset] [(.ref a2), (.int (1 : Int32))]))
  obtain ⟨cl2, Ar2, -, S2, M2, -, -⟩ := id (Pf1)
  refine own_go (fun t_ k => X0.arraylength hx (by rw [e0]; exact Ar2.1) (State.isArrayOf_alike hZ.alike Ar2.2.1) (g := (mkF m 3 #[.val (.ref a1), .val (.ref a2), .unset] [(.ref a2), (.int (1 : Int32))])) rfl rfl (hb hby d11_3) _ (by rw [len_of S2 M2]; exact k)) ?_
  show WP p e below _ (s₁.setTop (mkF m 4 #[.val (.ref a1), .val (.ref a2), .unset] [(.int (2 : Int32)), (.int (1 : Int32))]))
  have hc4_3 : ¬ ((1 : Int32) = (2 : Int32)) := by decide
  refine own_go (fun t_ k => XS.icmpYes X0.here hx rfl (pc0 := 4) (pc' := 34) rfl (hb hby d11_4) rfl (feq hc4_3).2 (by decide) (by decide) k) ?_
  show WP p e below _ (s₁.setTop (mkF m 34 #[.val (.ref a1), .val (.ref a2), .unset] []))
  refine own_go (fun t_ k => XS.iconst X0.here hx rfl (hb hby d11_34) k) ?_
  show WP p e below _ (s₁.setTop (mkF m 35 #[.val (.ref a1), .val (.ref a2), .unset] [(.int (0 : Int32))]))
  exact own_retZ X0 hx Bd.notSynchronized Bd.returns (hb hby d11_35) (by decide) (⟨by rw [f_rmLe_1_2], N0, e0⟩) (by decide) (by decide)
def f_rmLe_2_0 (u0 : Int32) (u1 : Int32) : Int32 := (0 : Int32)
def Q_rmLe_2_0 (Z : State) (a1 : Addr) (a2 : Addr) (k1 : ClassId) (k2 : ClassId) (u0 : Int32) (u1 : Int32) (h0 : Heap) (n0 : Nat) (v : Option Value) (h : Heap) (L : List Loc) : Prop := v = some (.int (f_rmLe_2_0 u0 u1)) ∧ Fr n0 L ∧ h = h0
theorem ef_rmLe_2_0 (m : MethodId) (x0 : Addr) (x1 : Addr) : entryFrame m #[(.ref x0), (.ref x1)] 3 = mkF m 0 #[.val (.ref x0), .val (.ref x1), .unset] [] := by first | (simp [entryFrame, mkF, argsToLocals, Value.category]; done) | rfl
set_option maxRecDepth 65536 in
set_option maxHeartbeats 40000000 in
theorem rmLe_2_0 (l : Launch) (Z : State) (a0 : Array Value) (hw : ∀ d ∈ tables_1, d.before a0 Z = true) (ws : List Jvm.Cond) (a1 : Addr) (a2 : Addr) (k1 : ClassId) (k2 : ClassId) (u0 : Int32) (u1 : Int32) (h0 : Heap) (n0 : Nat) (Pf0 : Arv Z h0 a1 k1 .byte (2 : Int32) [(.int u0), (.int u1)] (.int (0 : Int32))) (Pf1 : Arv Z h0 a2 k2 .byte (0 : Int32) [] (.int (0 : Int32))) :
    MetFree l (⟨"java/lang/StringLatin1", "equals", "([B[B)Z"⟩ : MethodName) (head1 (Jvm.Cond.code (⟨"java/lang/StringLatin1", "equals", "([B[B)Z"⟩ : MethodName) jdk_43_method_13_code 3 (some .boolean) :: ws) ({ frames := 0, cells := 0, slots := 0, locals := 0 } : Room)) (fun a U => a = #[(.ref a1), (.ref a2)] ∧ Z.Warmed39 U.vm ∧ U.heap = h0) (fun _ _ _ _ _ => True) (fun _ U o U' => ∃ v L, o = .returned v ∧ (Q_rmLe_2_0 Z a1 a2 k1 k2 u0 u1 h0 n0) v U'.heap L ∧ FrameEnd U o U' L ({ frames := 0, cells := 0, slots := 0, locals := 0 } : Room).cells ({ frames := 0, cells := 0, slots := 0, locals := 0 } : Room).slots) := by
  refine MetFree.of_bodySF (plainFor_of_name pn_5) hisR ?_
  intro p e s m args below meth c s₁ Bd hml0 hP hK
  obtain ⟨rfl, hZ, hh⟩ := hP
  have hx := Bd.exec
  have hby := Bd.bytes
  have hml : c.maxLocals = 3 := hml0
  have hown : s.vm.findClass "java/lang/StringLatin1" = some m.cls := findClass_of_methodNamed Bd.named
  have hnm := (name_of_methodNamed Bd.named Bd.method).1
  have X0 : Stand p l e ({ frames := 0, cells := 0, slots := 0, locals := 0 } : Room) s m #[(.ref a1), (.ref a2)] below meth c s₁ [] 0 0 := Stand.of_body Bd
  have e0 : s₁.heap = h0 := by rw [← hh, Bd.state]; rfl
  have N0 := Fr.nil n0
  show WP p e below (GG (Q_rmLe_2_0 Z a1 a2 k1 k2 u0 u1 h0 n0) s ({ frames := 0, cells := 0, slots := 0, locals := 0 } : Room).cells ({ frames := 0, cells := 0, slots := 0, locals := 0 } : Room).slots) (s₁.setTop (entryFrame m #[(.ref a1), (.ref a2)] 3))
  rw [ef_rmLe_2_0 m a1 a2]
  show WP p e below _ (s₁.setTop (mkF m 0 #[.val (.ref a1), .val (.ref a2), .unset] []))
  refine own_go (fun t_ k => XS.aloadN X0.here hx rfl (hb hby d11_0) rfl rfl k) ?_
  show WP p e below _ (s₁.setTop (mkF m 1 #[.val (.ref a1), .val (.ref a2), .unset] [(.ref a1)]))
  obtain ⟨cl1, Ar1, -, S1, M1, -, -⟩ := id (Pf0)
  refine own_go (fun t_ k => X0.arraylength hx (by rw [e0]; exact Ar1.1) (State.isArrayOf_alike hZ.alike Ar1.2.1) (g := (mkF m 1 #[.val (.ref a1), .val (.ref a2), .unset] [(.ref a1)])) rfl rfl (hb hby d11_1) _ (by rw [len_of S1 M1]; exact k)) ?_
  show WP p e below _ (s₁.setTop (mkF m 2 #[.val (.ref a1), .val (.ref a2), .unset] [(.int (2 : Int32))]))
  refine own_go (fun t_ k => XS.aloadN X0.here hx rfl (hb hby d11_2) rfl rfl k) ?_
  show WP p e below _ (s₁.setTop (mkF m 3 #[.val (.ref a1), .val (.ref a2), .unset] [(.ref a2), (.int (2 : Int32))]))
  obtain ⟨cl2, Ar2, -, S2, M2, -, -⟩ := id (Pf1)
  refine own_go (fun t_ k => X0.arraylength hx (by rw [e0]; exact Ar2.1) (State.isArrayOf_alike hZ.alike Ar2.2.1) (g := (mkF m 3 #[.val (.ref a1), .val (.ref a2), .unset] [(.ref a2), (.int (2 : Int32))])) rfl rfl (hb hby d11_3) _ (by rw [len_of S2 M2]; exact k)) ?_
  show WP p e below _ (s₁.setTop (mkF m 4 #[.val (.ref a1), .val (.ref a2), .unset] [(.int (0 : Int32)), (.int (2 : Int32))]))
  have hc4_3 : ¬ ((2 : Int32) = (0 : Int32)) := by decide
  refine own_go (fun t_ k => XS.icmpYes X0.here hx rfl (pc0 := 4) (pc' := 34) rfl (hb hby d11_4) rfl (feq hc4_3).2 (by decide) (by decide) k) ?_
  show WP p e below _ (s₁.setTop (mkF m 34 #[.val (.ref a1), .val (.ref a2), .unset] []))
  refine own_go (fun t_ k => XS.iconst X0.here hx rfl (hb hby d11_34) k) ?_
  show WP p e below _ (s₁.setTop (mkF m 35 #[.val (.ref a1), .val (.ref a2), .unset] [(.int (0 : Int32))]))
  exact own_retZ X0 hx Bd.notSynchronized Bd.returns (hb hby d11_35) (by decide) (⟨by rw [f_rmLe_2_0], N0, e0⟩) (by decide) (by decide)
def f_rmLe_2_1 (u0 : Int32) (u1 : Int32) (w0 : Int32) : Int32 := (0 : Int32)
def Q_rmLe_2_1 (Z : State) (a1 : Addr) (a2 : Addr) (k1 : ClassId) (k2 : ClassId) (u0 : Int32) (u1 : Int32) (w0 : Int32) (h0 : Heap) (n0 : Nat) (v : Option Value) (h : Heap) (L : List Loc) : Prop := v = some (.int (f_rmLe_2_1 u0 u1 w0)) ∧ Fr n0 L ∧ h = h0
theorem ef_rmLe_2_1 (m : MethodId) (x0 : Addr) (x1 : Addr) : entryFrame m #[(.ref x0), (.ref x1)] 3 = mkF m 0 #[.val (.ref x0), .val (.ref x1), .unset] [] := by first | (simp [entryFrame, mkF, argsToLocals, Value.category]; done) | rfl
set_option maxRecDepth 65536 in
set_option maxHeartbeats 40000000 in
theorem rmLe_2_1 (l : Launch) (Z : State) (a0 : Array Value) (hw : ∀ d ∈ tables_1, d.before a0 Z = true) (ws : List Jvm.Cond) (a1 : Addr) (a2 : Addr) (k1 : ClassId) (k2 : ClassId) (u0 : Int32) (u1 : Int32) (w0 : Int32) (h0 : Heap) (n0 : Nat) (Pf0 : Arv Z h0 a1 k1 .byte (2 : Int32) [(.int u0), (.int u1)] (.int (0 : Int32))) (Pf1 : Arv Z h0 a2 k2 .byte (1 : Int32) [(.int w0)] (.int (0 : Int32))) :
    MetFree l (⟨"java/lang/StringLatin1", "equals", "([B[B)Z"⟩ : MethodName) (head1 (Jvm.Cond.code (⟨"java/lang/StringLatin1", "equals", "([B[B)Z"⟩ : MethodName) jdk_43_method_13_code 3 (some .boolean) :: ws) ({ frames := 0, cells := 0, slots := 0, locals := 0 } : Room)) (fun a U => a = #[(.ref a1), (.ref a2)] ∧ Z.Warmed39 U.vm ∧ U.heap = h0) (fun _ _ _ _ _ => True) (fun _ U o U' => ∃ v L, o = .returned v ∧ (Q_rmLe_2_1 Z a1 a2 k1 k2 u0 u1 w0 h0 n0) v U'.heap L ∧ FrameEnd U o U' L ({ frames := 0, cells := 0, slots := 0, locals := 0 } : Room).cells ({ frames := 0, cells := 0, slots := 0, locals := 0 } : Room).slots) := by
  refine MetFree.of_bodySF (plainFor_of_name pn_5) hisR ?_
  intro p e s m args below meth c s₁ Bd hml0 hP hK
  obtain ⟨rfl, hZ, hh⟩ := hP
  have hx := Bd.exec
  have hby := Bd.bytes
  have hml : c.maxLocals = 3 := hml0
  have hown : s.vm.findClass "java/lang/StringLatin1" = some m.cls := findClass_of_methodNamed Bd.named
  have hnm := (name_of_methodNamed Bd.named Bd.method).1
  have X0 : Stand p l e ({ frames := 0, cells := 0, slots := 0, locals := 0 } : Room) s m #[(.ref a1), (.ref a2)] below meth c s₁ [] 0 0 := Stand.of_body Bd
  have e0 : s₁.heap = h0 := by rw [← hh, Bd.state]; rfl
  have N0 := Fr.nil n0
  show WP p e below (GG (Q_rmLe_2_1 Z a1 a2 k1 k2 u0 u1 w0 h0 n0) s ({ frames := 0, cells := 0, slots := 0, locals := 0 } : Room).cells ({ frames := 0, cells := 0, slots := 0, locals := 0 } : Room).slots) (s₁.setTop (entryFrame m #[(.ref a1), (.ref a2)] 3))
  rw [ef_rmLe_2_1 m a1 a2]
  show WP p e below _ (s₁.setTop (mkF m 0 #[.val (.ref a1), .val (.ref a2), .unset] []))
  refine own_go (fun t_ k => XS.aloadN X0.here hx rfl (hb hby d11_0) rfl rfl k) ?_
  show WP p e below _ (s₁.setTop (mkF m 1 #[.val (.ref a1), .val (.ref a2), .unset] [(.ref a1)]))
  obtain ⟨cl1, Ar1, -, S1, M1, -, -⟩ := id (Pf0)
  refine own_go (fun t_ k => X0.arraylength hx (by rw [e0]; exact Ar1.1) (State.isArrayOf_alike hZ.alike Ar1.2.1) (g := (mkF m 1 #[.val (.ref a1), .val (.ref a2), .unset] [(.ref a1)])) rfl rfl (hb hby d11_1) _ (by rw [len_of S1 M1]; exact k)) ?_
  show WP p e below _ (s₁.setTop (mkF m 2 #[.val (.ref a1), .val (.ref a2), .unset] [(.int (2 : Int32))]))
  refine own_go (fun t_ k => XS.aloadN X0.here hx rfl (hb hby d11_2) rfl rfl k) ?_
  show WP p e below _ (s₁.setTop (mkF m 3 #[.val (.ref a1), .val (.ref a2), .unset] [(.ref a2), (.int (2 : Int32))]))
  obtain ⟨cl2, Ar2, -, S2, M2, -, -⟩ := id (Pf1)
  refine own_go (fun t_ k => X0.arraylength hx (by rw [e0]; exact Ar2.1) (State.isArrayOf_alike hZ.alike Ar2.2.1) (g := (mkF m 3 #[.val (.ref a1), .val (.ref a2), .unset] [(.ref a2), (.int (2 : Int32))])) rfl rfl (hb hby d11_3) _ (by rw [len_of S2 M2]; exact k)) ?_
  show WP p e below _ (s₁.setTop (mkF m 4 #[.val (.ref a1), .val (.ref a2), .unset] [(.int (1 : Int32)), (.int (2 : Int32))]))
  have hc4_3 : ¬ ((2 : Int32) = (1 : Int32)) := by decide
  refine own_go (fun t_ k => XS.icmpYes X0.here hx rfl (pc0 := 4) (pc' := 34) rfl (hb hby d11_4) rfl (feq hc4_3).2 (by decide) (by decide) k) ?_
  show WP p e below _ (s₁.setTop (mkF m 34 #[.val (.ref a1), .val (.ref a2), .unset] []))
  refine own_go (fun t_ k => XS.iconst X0.here hx rfl (hb hby d11_34) k) ?_
  show WP p e below _ (s₁.setTop (mkF m 35 #[.val (.ref a1), .val (.ref a2), .unset] [(.int (0 : Int32))]))
  exact own_retZ X0 hx Bd.notSynchronized Bd.returns (hb hby d11_35) (by decide) (⟨by rw [f_rmLe_2_1], N0, e0⟩) (by decide) (by decide)
def f_rmLe_2_2 (u0 : Int32) (u1 : Int32) (w0 : Int32) (w1 : Int32) : Int32 := (if u0 = w0 then (if u1 = w1 then (1 : Int32) else (0 : Int32)) else (0 : Int32))
def Q_rmLe_2_2 (Z : State) (a1 : Addr) (a2 : Addr) (k1 : ClassId) (k2 : ClassId) (u0 : Int32) (u1 : Int32) (w0 : Int32) (w1 : Int32) (h0 : Heap) (n0 : Nat) (v : Option Value) (h : Heap) (L : List Loc) : Prop := v = some (.int (f_rmLe_2_2 u0 u1 w0 w1)) ∧ Fr n0 L ∧ h = h0
theorem ef_rmLe_2_2 (m : MethodId) (x0 : Addr) (x1 : Addr) : entryFrame m #[(.ref x0), (.ref x1)] 3 = mkF m 0 #[.val (.ref x0), .val (.ref x1), .unset] [] := by first | (simp [entryFrame, mkF, argsToLocals, Value.category]; done) | rfl
set_option maxRecDepth 65536 in
set_option maxHeartbeats 40000000 in
theorem rmLe_2_2 (l : Launch) (Z : State) (a0 : Array Value) (hw : ∀ d ∈ tables_1, d.before a0 Z = true) (ws : List Jvm.Cond) (a1 : Addr) (a2 : Addr) (k1 : ClassId) (k2 : ClassId) (u0 : Int32) (u1 : Int32) (w0 : Int32) (w1 : Int32) (h0 : Heap) (n0 : Nat) (Pf0 : Arv Z h0 a1 k1 .byte (2 : Int32) [(.int u0), (.int u1)] (.int (0 : Int32))) (Pf1 : Arv Z h0 a2 k2 .byte (2 : Int32) [(.int w0), (.int w1)] (.int (0 : Int32))) :
    MetFree l (⟨"java/lang/StringLatin1", "equals", "([B[B)Z"⟩ : MethodName) (head1 (Jvm.Cond.code (⟨"java/lang/StringLatin1", "equals", "([B[B)Z"⟩ : MethodName) jdk_43_method_13_code 3 (some .boolean) :: ws) ({ frames := 0, cells := 0, slots := 0, locals := 0 } : Room)) (fun a U => a = #[(.ref a1), (.ref a2)] ∧ Z.Warmed39 U.vm ∧ U.heap = h0) (fun _ _ _ _ _ => True) (fun _ U o U' => ∃ v L, o = .returned v ∧ (Q_rmLe_2_2 Z a1 a2 k1 k2 u0 u1 w0 w1 h0 n0) v U'.heap L ∧ FrameEnd U o U' L ({ frames := 0, cells := 0, slots := 0, locals := 0 } : Room).cells ({ frames := 0, cells := 0, slots := 0, locals := 0 } : Room).slots) := by
  refine MetFree.of_bodySF (plainFor_of_name pn_5) hisR ?_
  intro p e s m args below meth c s₁ Bd hml0 hP hK
  obtain ⟨rfl, hZ, hh⟩ := hP
  have hx := Bd.exec
  have hby := Bd.bytes
  have hml : c.maxLocals = 3 := hml0
  have hown : s.vm.findClass "java/lang/StringLatin1" = some m.cls := findClass_of_methodNamed Bd.named
  have hnm := (name_of_methodNamed Bd.named Bd.method).1
  have X0 : Stand p l e ({ frames := 0, cells := 0, slots := 0, locals := 0 } : Room) s m #[(.ref a1), (.ref a2)] below meth c s₁ [] 0 0 := Stand.of_body Bd
  have e0 : s₁.heap = h0 := by rw [← hh, Bd.state]; rfl
  have N0 := Fr.nil n0
  show WP p e below (GG (Q_rmLe_2_2 Z a1 a2 k1 k2 u0 u1 w0 w1 h0 n0) s ({ frames := 0, cells := 0, slots := 0, locals := 0 } : Room).cells ({ frames := 0, cells := 0, slots := 0, locals := 0 } : Room).slots) (s₁.setTop (entryFrame m #[(.ref a1), (.ref a2)] 3))
  rw [ef_rmLe_2_2 m a1 a2]
  show WP p e below _ (s₁.setTop (mkF m 0 #[.val (.ref a1), .val (.ref a2), .unset] []))
  refine own_go (fun t_ k => XS.aloadN X0.here hx rfl (hb hby d11_0) rfl rfl k) ?_
  show WP p e below _ (s₁.setTop (mkF m 1 #[.val (.ref a1), .val (.ref a2), .unset] [(.ref a1)]))
  obtain ⟨cl1, Ar1, -, S1, M1, -, -⟩ := id (Pf0)
  refine own_go (fun t_ k => X0.arraylength hx (by rw [e0]; exact Ar1.1) (State.isArrayOf_alike hZ.alike Ar1.2.1) (g := (mkF m 1 #[.val (.ref a1), .val (.ref a2), .unset] [(.ref a1)])) rfl rfl (hb hby d11_1) _ (by rw [len_of S1 M1]; exact k)) ?_
  show WP p e below _ (s₁.setTop (mkF m 2 #[.val (.ref a1), .val (.ref a2), .unset] [(.int (2 : Int32))]))
  refine own_go (fun t_ k => XS.aloadN X0.here hx rfl (hb hby d11_2) rfl rfl k) ?_
  show WP p e below _ (s₁.setTop (mkF m 3 #[.val (.ref a1), .val (.ref a2), .unset] [(.ref a2), (.int (2 : Int32))]))
  obtain ⟨cl2, Ar2, -, S2, M2, -, -⟩ := id (Pf1)
  refine own_go (fun t_ k => X0.arraylength hx (by rw [e0]; exact Ar2.1) (State.isArrayOf_alike hZ.alike Ar2.2.1) (g := (mkF m 3 #[.val (.ref a1), .val (.ref a2), .unset] [(.ref a2), (.int (2 : Int32))])) rfl rfl (hb hby d11_3) _ (by rw [len_of S2 M2]; exact k)) ?_
  show WP p e below _ (s₁.setTop (mkF m 4 #[.val (.ref a1), .val (.ref a2), .unset] [(.int (2 : Int32)), (.int (2 : Int32))]))
  have hc4_3 : ((2 : Int32) = (2 : Int32)) := by decide
  refine own_go (fun t_ k => XS.icmpNo X0.here hx rfl (hb hby d11_4) rfl (teq hc4_3).2 k) ?_
  show WP p e below _ (s₁.setTop (mkF m 7 #[.val (.ref a1), .val (.ref a2), .unset] []))
  refine own_go (fun t_ k => XS.iconst X0.here hx rfl (hb hby d11_7) k) ?_
  show WP p e below _ (s₁.setTop (mkF m 8 #[.val (.ref a1), .val (.ref a2), .unset] [(.int (0 : Int32))]))
  refine own_go (fun t_ k => XS.istoreN X0.here hx rfl (hb hby d11_8) rfl (l' := #[.val (.ref a1), .val (.ref a2), .val (.int (0 : Int32))]) rfl k) ?_
  show WP p e below _ (s₁.setTop (mkF m 9 #[.val (.ref a1), .val (.ref a2), .val (.int (0 : Int32))] []))
  refine own_go (fun t_ k => XS.iloadN X0.here hx rfl (hb hby d11_9) rfl k) ?_
  show WP p e below _ (s₁.setTop (mkF m 10 #[.val (.ref a1), .val (.ref a2), .val (.int (0 : Int32))] [(.int (0 : Int32))]))
  refine own_go (fun t_ k => XS.aloadN X0.here hx rfl (hb hby d11_10) rfl rfl k) ?_
  show WP p e below _ (s₁.setTop (mkF m 11 #[.val (.ref a1), .val (.ref a2), .val (.int (0 : Int32))] [(.ref a1), (.int (0 : Int32))]))
  obtain ⟨cl4, Ar4, -, S4, M4, -, -⟩ := id (Pf0)
  refine own_go (fun t_ k => X0.arraylength hx (by rw [e0]; exact Ar4.1) (State.isArrayOf_alike hZ.alike Ar4.2.1) (g := (mkF m 11 #[.val (.ref a1), .val (.ref a2), .val (.int (0 : Int32))] [(.ref a1), (.int (0 : Int32))])) rfl rfl (hb hby d11_11) _ (by rw [len_of S4 M4]; exact k)) ?_
  show WP p e below _ (s₁.setTop (mkF m 12 #[.val (.ref a1), .val (.ref a2), .val (.int (0 : Int32))] [(.int (2 : Int32)), (.int (0 : Int32))]))
  have hc12_5 : ((0 : Int32) < (2 : Int32)) := by decide
  refine own_go (fun t_ k => XS.icmpNo X0.here hx rfl (hb hby d11_12) rfl (tlt hc12_5).2.1 k) ?_
  show WP p e below _ (s₁.setTop (mkF m 15 #[.val (.ref a1), .val (.ref a2), .val (.int (0 : Int32))] []))
  refine own_go (fun t_ k => XS.aloadN X0.here hx rfl (hb hby d11_15) rfl rfl k) ?_
  show WP p e below _ (s₁.setTop (mkF m 16 #[.val (.ref a1), .val (.ref a2), .val (.int (0 : Int32))] [(.ref a1)]))
  refine own_go (fun t_ k => XS.iloadN X0.here hx rfl (hb hby d11_16) rfl k) ?_
  show WP p e below _ (s₁.setTop (mkF m 17 #[.val (.ref a1), .val (.ref a2), .val (.int (0 : Int32))] [(.int (0 : Int32)), (.ref a1)]))
  obtain ⟨cl6, Ar6, -, S6, M6, H6, -⟩ := id (Pf0)
  have hin6 : ¬ ((0 : Int32) < 0 ∨ cl6.slots.size ≤ ((0 : Int32)).toNatClampNeg) := inb_of S6 (⟨by decide, by decide⟩)
  refine own_go (fun t_ k => X0.baloadBytes hx (j := (0 : Int32)) (v := (.int u0)) (by rw [e0]; exact Ar6.1) (State.isArrayOf_alike hZ.alike Ar6.2.1) Ar6.2.2 hin6 (H6.at hin6 rfl) (g := (mkF m 17 #[.val (.ref a1), .val (.ref a2), .val (.int (0 : Int32))] [(.int (0 : Int32)), (.ref a1)])) rfl rfl (hb hby d11_17) _ k) ?_
  show WP p e below _ (s₁.setTop (mkF m 18 #[.val (.ref a1), .val (.ref a2), .val (.int (0 : Int32))] [(.int u0)]))
  refine own_go (fun t_ k => XS.aloadN X0.here hx rfl (hb hby d11_18) rfl rfl k) ?_
  show WP p e below _ (s₁.setTop (mkF m 19 #[.val (.ref a1), .val (.ref a2), .val (.int (0 : Int32))] [(.ref a2), (.int u0)]))
  refine own_go (fun t_ k => XS.iloadN X0.here hx rfl (hb hby d11_19) rfl k) ?_
  show WP p e below _ (s₁.setTop (mkF m 20 #[.val (.ref a1), .val (.ref a2), .val (.int (0 : Int32))] [(.int (0 : Int32)), (.ref a2), (.int u0)]))
  obtain ⟨cl7, Ar7, -, S7, M7, H7, -⟩ := id (Pf1)
  have hin7 : ¬ ((0 : Int32) < 0 ∨ cl7.slots.size ≤ ((0 : Int32)).toNatClampNeg) := inb_of S7 (⟨by decide, by decide⟩)
  refine own_go (fun t_ k => X0.baloadBytes hx (j := (0 : Int32)) (v := (.int w0)) (by rw [e0]; exact Ar7.1) (State.isArrayOf_alike hZ.alike Ar7.2.1) Ar7.2.2 hin7 (H7.at hin7 rfl) (g := (mkF m 20 #[.val (.ref a1), .val (.ref a2), .val (.int (0 : Int32))] [(.int (0 : Int32)), (.ref a2), (.int u0)])) rfl rfl (hb hby d11_20) _ k) ?_
  show WP p e below _ (s₁.setTop (mkF m 21 #[.val (.ref a1), .val (.ref a2), .val (.int (0 : Int32))] [(.int w0), (.int u0)]))
  by_cases hc21_8 : u0 = w0
  · refine own_go (fun t_ k => XS.icmpYes X0.here hx rfl (pc0 := 21) (pc' := 26) rfl (hb hby d11_21) rfl (teq hc21_8).1 (by decide) (by decide) k) ?_
    show WP p e below _ (s₁.setTop (mkF m 26 #[.val (.ref a1), .val (.ref a2), .val (.int (0 : Int32))] []))
    refine own_go (fun t_ k => XS.iinc X0.here hx rfl (hb hby d11_26) rfl (l' := #[.val (.ref a1), .val (.ref a2), .val (.int (1 : Int32))]) rfl k) ?_
    show WP p e below _ (s₁.setTop (mkF m 29 #[.val (.ref a1), .val (.ref a2), .val (.int (1 : Int32))] []))
    refine own_go (fun t_ k => XS.goto X0.here hx rfl (pc0 := 29) (pc' := 9) rfl (hb hby d11_29) (by decide) (by decide) k) ?_
    show WP p e below _ (s₁.setTop (mkF m 9 #[.val (.ref a1), .val (.ref a2), .val (.int (1 : Int32))] []))
    refine own_go (fun t_ k => XS.iloadN X0.here hx rfl (hb hby d11_9) rfl k) ?_
    show WP p e below _ (s₁.setTop (mkF m 10 #[.val (.ref a1), .val (.ref a2), .val (.int (1 : Int32))] [(.int (1 : Int32))]))
    refine own_go (fun t_ k => XS.aloadN X0.here hx rfl (hb hby d11_10) rfl rfl k) ?_
    show WP p e below _ (s₁.setTop (mkF m 11 #[.val (.ref a1), .val (.ref a2), .val (.int (1 : Int32))] [(.ref a1), (.int (1 : Int32))]))
    obtain ⟨cl9, Ar9, -, S9, M9, -, -⟩ := id (Pf0)
    refine own_go (fun t_ k => X0.arraylength hx (by rw [e0]; exact Ar9.1) (State.isArrayOf_alike hZ.alike Ar9.2.1) (g := (mkF m 11 #[.val (.ref a1), .val (.ref a2), .val (.int (1 : Int32))] [(.ref a1), (.int (1 : Int32))])) rfl rfl (hb hby d11_11) _ (by rw [len_of S9 M9]; exact k)) ?_
    show WP p e below _ (s₁.setTop (mkF m 12 #[.val (.ref a1), .val (.ref a2), .val (.int (1 : Int32))] [(.int (2 : Int32)), (.int (1 : Int32))]))
    have hc12_10 : ((1 : Int32) < (2 : Int32)) := by decide
    refine own_go (fun t_ k => XS.icmpNo X0.here hx rfl (hb hby d11_12) rfl (tlt hc12_10).2.1 k) ?_
    show WP p e below _ (s₁.setTop (mkF m 15 #[.val (.ref a1), .val (.ref a2), .val (.int (1 : Int32))] []))
    refine own_go (fun t_ k => XS.aloadN X0.here hx rfl (hb hby d11_15) rfl rfl k) ?_
    show WP p e below _ (s₁.setTop (mkF m 16 #[.val (.ref a1), .val (.ref a2), .val (.int (1 : Int32))] [(.ref a1)]))
    refine own_go (fun t_ k => XS.iloadN X0.here hx rfl (hb hby d11_16) rfl k) ?_
    show WP p e below _ (s₁.setTop (mkF m 17 #[.val (.ref a1), .val (.ref a2), .val (.int (1 : Int32))] [(.int (1 : Int32)), (.ref a1)]))
    obtain ⟨cl11, Ar11, -, S11, M11, H11, -⟩ := id (Pf0)
    have hin11 : ¬ ((1 : Int32) < 0 ∨ cl11.slots.size ≤ ((1 : Int32)).toNatClampNeg) := inb_of S11 (⟨by decide, by decide⟩)
    refine own_go (fun t_ k => X0.baloadBytes hx (j := (1 : Int32)) (v := (.int u1)) (by rw [e0]; exact Ar11.1) (State.isArrayOf_alike hZ.alike Ar11.2.1) Ar11.2.2 hin11 (H11.at hin11 rfl) (g := (mkF m 17 #[.val (.ref a1), .val (.ref a2), .val (.int (1 : Int32))] [(.int (1 : Int32)), (.ref a1)])) rfl rfl (hb hby d11_17) _ k) ?_
    show WP p e below _ (s₁.setTop (mkF m 18 #[.val (.ref a1), .val (.ref a2), .val (.int (1 : Int32))] [(.int u1)]))
    refine own_go (fun t_ k => XS.aloadN X0.here hx rfl (hb hby d11_18) rfl rfl k) ?_
    show WP p e below _ (s₁.setTop (mkF m 19 #[.val (.ref a1), .val (.ref a2), .val (.int (1 : Int32))] [(.ref a2), (.int u1)]))
    refine own_go (fun t_ k => XS.iloadN X0.here hx rfl (hb hby d11_19) rfl k) ?_
    show WP p e below _ (s₁.setTop (mkF m 20 #[.val (.ref a1), .val (.ref a2), .val (.int (1 : Int32))] [(.int (1 : Int32)), (.ref a2), (.int u1)]))
    obtain ⟨cl12, Ar12, -, S12, M12, H12, -⟩ := id (Pf1)
    have hin12 : ¬ ((1 : Int32) < 0 ∨ cl12.slots.size ≤ ((1 : Int32)).toNatClampNeg) := inb_of S12 (⟨by decide, by decide⟩)
    refine own_go (fun t_ k => X0.baloadBytes hx (j := (1 : Int32)) (v := (.int w1)) (by rw [e0]; exact Ar12.1) (State.isArrayOf_alike hZ.alike Ar12.2.1) Ar12.2.2 hin12 (H12.at hin12 rfl) (g := (mkF m 20 #[.val (.ref a1), .val (.ref a2), .val (.int (1 : Int32))] [(.int (1 : Int32)), (.ref a2), (.int u1)])) rfl rfl (hb hby d11_20) _ k) ?_
    show WP p e below _ (s₁.setTop (mkF m 21 #[.val (.ref a1), .val (.ref a2), .val (.int (1 : Int32))] [(.int w1), (.int u1)]))
    by_cases hc21_13 : u1 = w1
    · refine own_go (fun t_ k => XS.icmpYes X0.here hx rfl (pc0 := 21) (pc' := 26) rfl (hb hby d11_21) rfl (teq hc21_13).1 (by decide) (by decide) k) ?_
      show WP p e below _ (s₁.setTop (mkF m 26 #[.val (.ref a1), .val (.ref a2), .val (.int (1 : Int32))] []))
      refine own_go (fun t_ k => XS.iinc X0.here hx rfl (hb hby d11_26) rfl (l' := #[.val (.ref a1), .val (.ref a2), .val (.int (2 : Int32))]) rfl k) ?_
      show WP p e below _ (s₁.setTop (mkF m 29 #[.val (.ref a1), .val (.ref a2), .val (.int (2 : Int32))] []))
      refine own_go (fun t_ k => XS.goto X0.here hx rfl (pc0 := 29) (pc' := 9) rfl (hb hby d11_29) (by decide) (by decide) k) ?_
      show WP p e below _ (s₁.setTop (mkF m 9 #[.val (.ref a1), .val (.ref a2), .val (.int (2 : Int32))] []))
      refine own_go (fun t_ k => XS.iloadN X0.here hx rfl (hb hby d11_9) rfl k) ?_
      show WP p e below _ (s₁.setTop (mkF m 10 #[.val (.ref a1), .val (.ref a2), .val (.int (2 : Int32))] [(.int (2 : Int32))]))
      refine own_go (fun t_ k => XS.aloadN X0.here hx rfl (hb hby d11_10) rfl rfl k) ?_
      show WP p e below _ (s₁.setTop (mkF m 11 #[.val (.ref a1), .val (.ref a2), .val (.int (2 : Int32))] [(.ref a1), (.int (2 : Int32))]))
      obtain ⟨cl14, Ar14, -, S14, M14, -, -⟩ := id (Pf0)
      refine own_go (fun t_ k => X0.arraylength hx (by rw [e0]; exact Ar14.1) (State.isArrayOf_alike hZ.alike Ar14.2.1) (g := (mkF m 11 #[.val (.ref a1), .val (.ref a2), .val (.int (2 : Int32))] [(.ref a1), (.int (2 : Int32))])) rfl rfl (hb hby d11_11) _ (by rw [len_of S14 M14]; exact k)) ?_
      show WP p e below _ (s₁.setTop (mkF m 12 #[.val (.ref a1), .val (.ref a2), .val (.int (2 : Int32))] [(.int (2 : Int32)), (.int (2 : Int32))]))
      have hc12_15 : ¬ ((2 : Int32) < (2 : Int32)) := by decide
      refine own_go (fun t_ k => XS.icmpYes X0.here hx rfl (pc0 := 12) (pc' := 32) rfl (hb hby d11_12) rfl (flt hc12_15).2.1 (by decide) (by decide) k) ?_
      show WP p e below _ (s₁.setTop (mkF m 32 #[.val (.ref a1), .val (.ref a2), .val (.int (2 : Int32))] []))
      refine own_go (fun t_ k => XS.iconst X0.here hx rfl (hb hby d11_32) k) ?_
      show WP p e below _ (s₁.setTop (mkF m 33 #[.val (.ref a1), .val (.ref a2), .val (.int (2 : Int32))] [(.int (1 : Int32))]))
      exact own_retZ X0 hx Bd.notSynchronized Bd.returns (hb hby d11_33) (by decide) (⟨by rw [f_rmLe_2_2, if_pos hc21_8, if_pos hc21_13], N0, e0⟩) (by decide) (by decide)
    · refine own_go (fun t_ k => XS.icmpNo X0.here hx rfl (hb hby d11_21) rfl (feq hc21_13).1 k) ?_
      show WP p e below _ (s₁.setTop (mkF m 24 #[.val (.ref a1), .val (.ref a2), .val (.int (1 : Int32))] []))
      refine own_go (fun t_ k => XS.iconst X0.here hx rfl (hb hby d11_24) k) ?_
      show WP p e below _ (s₁.setTop (mkF m 25 #[.val (.ref a1), .val (.ref a2), .val (.int (1 : Int32))] [(.int (0 : Int32))]))
      exact own_retZ X0 hx Bd.notSynchronized Bd.returns (hb hby d11_25) (by decide) (⟨by rw [f_rmLe_2_2, if_pos hc21_8, if_neg hc21_13], N0, e0⟩) (by decide) (by decide)
  · refine own_go (fun t_ k => XS.icmpNo X0.here hx rfl (hb hby d11_21) rfl (feq hc21_8).1 k) ?_
    show WP p e below _ (s₁.setTop (mkF m 24 #[.val (.ref a1), .val (.ref a2), .val (.int (0 : Int32))] []))
    refine own_go (fun t_ k => XS.iconst X0.here hx rfl (hb hby d11_24) k) ?_
    show WP p e below _ (s₁.setTop (mkF m 25 #[.val (.ref a1), .val (.ref a2), .val (.int (0 : Int32))] [(.int (0 : Int32))]))
    exact own_retZ X0 hx Bd.notSynchronized Bd.returns (hb hby d11_25) (by decide) (⟨by rw [f_rmLe_2_2, if_neg hc21_8], N0, e0⟩) (by decide) (by decide)
def f_rmSe_0_0 (cs : Int32) : Int32 := (if (f_rmLe_0_0) = (0 : Int32) then (0 : Int32) else (1 : Int32))
def Q_rmSe_0_0 (Z : State) (a1 : Addr) (a2 : Addr) (b1 : Addr) (b2 : Addr) (k1 : ClassId) (k2 : ClassId) (cs : Int32) (h0 : Heap) (n0 : Nat) (v : Option Value) (h : Heap) (L : List Loc) : Prop := v = some (.int (f_rmSe_0_0 cs)) ∧ Fr n0 L ∧ h = h0
theorem pd_6 : parseMethodDescriptor "([B[B)Z" = some ⟨[(.array .byte), (.array .byte)], some .boolean⟩ := by decide +kernel
theorem d10_0 : decode jdk_42_method_66_code 0 = .ok (.aload_n 0, 1) := by decide +kernel
theorem d10_1 : decode jdk_42_method_66_code 1 = .ok (.aload_n 1, 1) := by decide +kernel
theorem d10_2 : decode jdk_42_method_66_code 2 = .ok (.if_acmp .ne 5, 3) := by decide +kernel
theorem d10_7 : decode jdk_42_method_66_code 7 = .ok (.aload_n 1, 1) := by decide +kernel
theorem d10_8 : decode jdk_42_method_66_code 8 = .ok (.instanceof 10, 3) := by decide +kernel
theorem d10_11 : decode jdk_42_method_66_code 11 = .ok (.ifCond .eq 43, 3) := by decide +kernel
theorem d10_14 : decode jdk_42_method_66_code 14 = .ok (.aload_n 1, 1) := by decide +kernel
theorem d10_15 : decode jdk_42_method_66_code 15 = .ok (.checkcast 10, 3) := by decide +kernel
theorem d10_18 : decode jdk_42_method_66_code 18 = .ok (.astore_n 2, 1) := by decide +kernel
theorem d10_19 : decode jdk_42_method_66_code 19 = .ok (.getstatic 38, 3) := by decide +kernel
theorem d10_22 : decode jdk_42_method_66_code 22 = .ok (.ifCond .eq 14, 3) := by decide +kernel
theorem d10_25 : decode jdk_42_method_66_code 25 = .ok (.aload_n 0, 1) := by decide +kernel
theorem d10_26 : decode jdk_42_method_66_code 26 = .ok (.getfield 15, 3) := by decide +kernel
theorem d10_29 : decode jdk_42_method_66_code 29 = .ok (.aload_n 2, 1) := by decide +kernel
theorem d10_30 : decode jdk_42_method_66_code 30 = .ok (.getfield 15, 3) := by decide +kernel
theorem d10_33 : decode jdk_42_method_66_code 33 = .ok (.if_icmp .ne 21, 3) := by decide +kernel
theorem d10_36 : decode jdk_42_method_66_code 36 = .ok (.aload_n 0, 1) := by decide +kernel
theorem d10_37 : decode jdk_42_method_66_code 37 = .ok (.getfield 9, 3) := by decide +kernel
theorem d10_40 : decode jdk_42_method_66_code 40 = .ok (.aload_n 2, 1) := by decide +kernel
theorem d10_41 : decode jdk_42_method_66_code 41 = .ok (.getfield 9, 3) := by decide +kernel
theorem d10_44 : decode jdk_42_method_66_code 44 = .ok (.invokestatic 541, 3) := by decide +kernel
theorem d10_47 : decode jdk_42_method_66_code 47 = .ok (.ifCond .eq 7, 3) := by decide +kernel
theorem d10_50 : decode jdk_42_method_66_code 50 = .ok (.iconst 1, 1) := by decide +kernel
theorem d10_51 : decode jdk_42_method_66_code 51 = .ok (.goto 4, 3) := by decide +kernel
theorem d10_54 : decode jdk_42_method_66_code 54 = .ok (.iconst 0, 1) := by decide +kernel
theorem d10_55 : decode jdk_42_method_66_code 55 = .ok (.ireturn, 1) := by decide +kernel
theorem ef_rmSe_0_0 (m : MethodId) (x0 : Addr) (x1 : Addr) : entryFrame m #[(.ref x0), (.ref x1)] 3 = mkF m 0 #[.val (.ref x0), .val (.ref x1), .unset] [] := by first | (simp [entryFrame, mkF, argsToLocals, Value.category]; done) | rfl
set_option maxRecDepth 65536 in
set_option maxHeartbeats 40000000 in
theorem rmSe_0_0 (l : Launch) (Z : State) (a0 : Array Value) (hw : ∀ d ∈ tables_1, d.before a0 Z = true) (ws : List Jvm.Cond) (a1 : Addr) (a2 : Addr) (b1 : Addr) (b2 : Addr) (k1 : ClassId) (k2 : ClassId) (cs : Int32) (h0 : Heap) (n0 : Nat) (Pf0 : Exa Z h0 a2 "java/lang/String") (Pf1 : Sta Z h0 "java/lang/String" "COMPACT_STRINGS" "Z" (.int cs)) (Pf2 : Fld Z h0 a1 "java/lang/String" "coder" "B" (.int (0 : Int32))) (Pf3 : Fld Z h0 a2 "java/lang/String" "coder" "B" (.int (0 : Int32))) (Pf4 : Fld Z h0 a1 "java/lang/String" "value" "[B" (.ref b1)) (Pf5 : Fld Z h0 a2 "java/lang/String" "value" "[B" (.ref b2)) (Pf6 : Arv Z h0 b1 k1 .byte (0 : Int32) [] (.int (0 : Int32))) (Pf7 : Arv Z h0 b2 k2 .byte (0 : Int32) [] (.int (0 : Int32))) (hne : a1 ≠ a2) (hcs : ¬ cs = (0 : Int32)) :
    MetFree l (⟨"java/lang/String", "equals", "(Ljava/lang/Object;)Z"⟩ : MethodName) (head1 (Jvm.Cond.code (⟨"java/lang/String", "equals", "(Ljava/lang/Object;)Z"⟩ : MethodName) jdk_42_method_66_code 3 (some .boolean) :: ws) ({ frames := 1, cells := 0, slots := 0, locals := 14 } : Room)) (fun a U => a = #[(.ref a1), (.ref a2)] ∧ Z.Warmed39 U.vm ∧ U.heap = h0) (fun _ _ _ _ _ => True) (fun _ U o U' => ∃ v L, o = .returned v ∧ (Q_rmSe_0_0 Z a1 a2 b1 b2 k1 k2 cs h0 n0) v U'.heap L ∧ FrameEnd U o U' L ({ frames := 1, cells := 0, slots := 0, locals := 14 } : Room).cells ({ frames := 1, cells := 0, slots := 0, locals := 14 } : Room).slots) := by
  refine MetFree.of_bodySF (plainFor_of_name pn_1) hisR ?_
  intro p e s m args below meth c s₁ Bd hml0 hP hK
  obtain ⟨rfl, hZ, hh⟩ := hP
  have hx := Bd.exec
  have hby := Bd.bytes
  have hml : c.maxLocals = 3 := hml0
  have hown : s.vm.findClass "java/lang/String" = some m.cls := findClass_of_methodNamed Bd.named
  have hnm := (name_of_methodNamed Bd.named Bd.method).1
  have X0 : Stand p l e ({ frames := 1, cells := 0, slots := 0, locals := 14 } : Room) s m #[(.ref a1), (.ref a2)] below meth c s₁ [] 0 0 := Stand.of_body Bd
  have e0 : s₁.heap = h0 := by rw [← hh, Bd.state]; rfl
  have N0 := Fr.nil n0
  show WP p e below (GG (Q_rmSe_0_0 Z a1 a2 b1 b2 k1 k2 cs h0 n0) s ({ frames := 1, cells := 0, slots := 0, locals := 14 } : Room).cells ({ frames := 1, cells := 0, slots := 0, locals := 14 } : Room).slots) (s₁.setTop (entryFrame m #[(.ref a1), (.ref a2)] 3))
  rw [ef_rmSe_0_0 m a1 a2]
  show WP p e below _ (s₁.setTop (mkF m 0 #[.val (.ref a1), .val (.ref a2), .unset] []))
  refine own_go (fun t_ k => XS.aloadN X0.here hx rfl (hb hby d10_0) rfl rfl k) ?_
  show WP p e below _ (s₁.setTop (mkF m 1 #[.val (.ref a1), .val (.ref a2), .unset] [(.ref a1)]))
  refine own_go (fun t_ k => XS.aloadN X0.here hx rfl (hb hby d10_1) rfl rfl k) ?_
  show WP p e below _ (s₁.setTop (mkF m 2 #[.val (.ref a1), .val (.ref a2), .unset] [(.ref a2), (.ref a1)]))
  refine own_go (fun t_ k => Jvm.RoadKit.acmp (g := (mkF m 2 #[.val (.ref a1), .val (.ref a2), .unset] [(.ref a2), (.ref a1)])) X0 hx rfl rfl rfl (pc0 := 2) (pc' := 7) (same := false) rfl (hb hby d10_2) rfl (decide_eq_false fun q => (hne) (Value.ref.inj q)) (by decide) (by decide) k) ?_
  show WP p e below _ (s₁.setTop (mkF m 7 #[.val (.ref a1), .val (.ref a2), .unset] []))
  refine own_go (fun t_ k => XS.aloadN X0.here hx rfl (hb hby d10_7) rfl rfl k) ?_
  show WP p e below _ (s₁.setTop (mkF m 8 #[.val (.ref a1), .val (.ref a2), .unset] [(.ref a2)]))
  obtain ⟨T1, X1, e1, st1⟩ := instY X0 hx hZ hown (hw _ (List.mem_of_getElem? (i := 71) rfl)) e0 (Ins.of_exa Pf0 (hw _ (List.mem_of_getElem? (i := 13) rfl))) (g := (mkF m 8 #[.val (.ref a1), .val (.ref a2), .unset] [(.ref a2)])) rfl rfl (hb hby d10_8)
  refine own_go st1 ?_
  show WP p e below _ (T1.setTop (mkF m 11 #[.val (.ref a1), .val (.ref a2), .unset] [(.int (1 : Int32))]))
  have hc11_2 : ¬ ((1 : Int32) = (0 : Int32)) := by decide
  refine own_go (fun t_ k => XS.ifNo X1.here hx rfl (hb hby d10_11) rfl ((if0 _ _).trans (feq hc11_2).1) k) ?_
  show WP p e below _ (T1.setTop (mkF m 14 #[.val (.ref a1), .val (.ref a2), .unset] []))
  refine own_go (fun t_ k => XS.aloadN X1.here hx rfl (hb hby d10_14) rfl rfl k) ?_
  show WP p e below _ (T1.setTop (mkF m 15 #[.val (.ref a1), .val (.ref a2), .unset] [(.ref a2)]))
  obtain ⟨T3, X3, e3, st3⟩ := castY X1 hx hZ hown (hw _ (List.mem_of_getElem? (i := 71) rfl)) e1 (Ins.of_exa Pf0 (hw _ (List.mem_of_getElem? (i := 13) rfl))) (g := (mkF m 15 #[.val (.ref a1), .val (.ref a2), .unset] [(.ref a2)])) rfl rfl (hb hby d10_15)
  refine own_go st3 ?_
  show WP p e below _ (T3.setTop (mkF m 18 #[.val (.ref a1), .val (.ref a2), .unset] [(.ref a2)]))
  refine own_go (fun t_ k => XS.astoreN X3.here hx rfl (hb hby d10_18) rfl rfl (l' := #[.val (.ref a1), .val (.ref a2), .val (.ref a2)]) rfl k) ?_
  show WP p e below _ (T3.setTop (mkF m 19 #[.val (.ref a1), .val (.ref a2), .val (.ref a2)] []))
  obtain ⟨T4, X4, e4, st4⟩ := getS2 X3 hx hZ hown (host := "") (Or.inl (hw _ (List.mem_of_getElem? (i := 72) rfl))) Via.refl e3 Pf1 (g := (mkF m 19 #[.val (.ref a1), .val (.ref a2), .val (.ref a2)] [])) rfl (hb hby d10_19)
  refine own_go st4 ?_
  show WP p e below _ (T4.setTop (mkF m 22 #[.val (.ref a1), .val (.ref a2), .val (.ref a2)] [(.int cs)]))
  have hc22_5 : ¬ (cs = (0 : Int32)) := hcs
  refine own_go (fun t_ k => XS.ifNo X4.here hx rfl (hb hby d10_22) rfl ((if0 _ _).trans (feq hc22_5).1) k) ?_
  show WP p e below _ (T4.setTop (mkF m 25 #[.val (.ref a1), .val (.ref a2), .val (.ref a2)] []))
  refine own_go (fun t_ k => XS.aloadN X4.here hx rfl (hb hby d10_25) rfl rfl k) ?_
  show WP p e below _ (T4.setTop (mkF m 26 #[.val (.ref a1), .val (.ref a2), .val (.ref a2)] [(.ref a1)]))
  obtain ⟨T6, X6, e6, st6⟩ := getF X4 hx hZ hown (host := "") (Or.inl (hw _ (List.mem_of_getElem? (i := 25) rfl))) Via.refl e4 Pf2 (g := (mkF m 26 #[.val (.ref a1), .val (.ref a2), .val (.ref a2)] [(.ref a1)])) rfl rfl (hb hby d10_26)
  refine own_go st6 ?_
  show WP p e below _ (T6.setTop (mkF m 29 #[.val (.ref a1), .val (.ref a2), .val (.ref a2)] [(.int (0 : Int32))]))
  refine own_go (fun t_ k => XS.aloadN X6.here hx rfl (hb hby d10_29) rfl rfl k) ?_
  show WP p e below _ (T6.setTop (mkF m 30 #[.val (.ref a1), .val (.ref a2), .val (.ref a2)] [(.ref a2), (.int (0 : Int32))]))
  obtain ⟨T7, X7, e7, st7⟩ := getF X6 hx hZ hown (host := "") (Or.inl (hw _ (List.mem_of_getElem? (i := 25) rfl))) Via.refl e6 Pf3 (g := (mkF m 30 #[.val (.ref a1), .val (.ref a2), .val (.ref a2)] [(.ref a2), (.int (0 : Int32))])) rfl rfl (hb hby d10_30)
  refine own_go st7 ?_
  show WP p e below _ (T7.setTop (mkF m 33 #[.val (.ref a1), .val (.ref a2), .val (.ref a2)] [(.int (0 : Int32)), (.int (0 : Int32))]))
  have hc33_8 : ((0 : Int32) = (0 : Int32)) := by decide
  refine own_go (fun t_ k => XS.icmpNo X7.here hx rfl (hb hby d10_33) rfl (teq hc33_8).2 k) ?_
  show WP p e below _ (T7.setTop (mkF m 36 #[.val (.ref a1), .val (.ref a2), .val (.ref a2)] []))
  refine own_go (fun t_ k => XS.aloadN X7.here hx rfl (hb hby d10_36) rfl rfl k) ?_
  show WP p e below _ (T7.setTop (mkF m 37 #[.val (.ref a1), .val (.ref a2), .val (.ref a2)] [(.ref a1)]))
  obtain ⟨T9, X9, e9, st9⟩ := getF X7 hx hZ hown (host := "") (Or.inl (hw _ (List.mem_of_getElem? (i := 24) rfl))) Via.refl e7 Pf4 (g := (mkF m 37 #[.val (.ref a1), .val (.ref a2), .val (.ref a2)] [(.ref a1)])) rfl rfl (hb hby d10_37)
  refine own_go st9 ?_
  show WP p e below _ (T9.setTop (mkF m 40 #[.val (.ref a1), .val (.ref a2), .val (.ref a2)] [(.ref b1)]))
  refine own_go (fun t_ k => XS.aloadN X9.here hx rfl (hb hby d10_40) rfl rfl k) ?_
  show WP p e below _ (T9.setTop (mkF m 41 #[.val (.ref a1), .val (.ref a2), .val (.ref a2)] [(.ref a2), (.ref b1)]))
  obtain ⟨T10, X10, e10, st10⟩ := getF X9 hx hZ hown (host := "") (Or.inl (hw _ (List.mem_of_getElem? (i := 24) rfl))) Via.refl e9 Pf5 (g := (mkF m 41 #[.val (.ref a1), .val (.ref a2), .val (.ref a2)] [(.ref a2), (.ref b1)])) rfl rfl (hb hby d10_41)
  refine own_go st10 ?_
  show WP p e below _ (T10.setTop (mkF m 44 #[.val (.ref a1), .val (.ref a2), .val (.ref a2)] [(.ref b2), (.ref b1)]))
  obtain ⟨_, T11, Lc11, X11, hQ11, st11⟩ := own_un X10 0 0 (Jvm.LawKit.callS X10 hx (y := (⟨"java/lang/StringLatin1", "equals", "([B[B)Z"⟩ : MethodName)) hown (mvT hZ (hw _ (List.mem_of_getElem? (i := 73) rfl))) (mvT hZ (hw _ (List.mem_of_getElem? (i := 74) rfl))) (mvT hZ (hw _ (List.mem_of_getElem? (i := 75) rfl))) (mvT hZ (hw _ (List.mem_of_getElem? (i := 76) rfl))) (by decide) (backOf (W := 0) (rmLe_0_0 l Z a0 hw [] b1 b2 k1 k2 h0 n0 Pf6 Pf7 ) hZ (hw _ (List.mem_of_getElem? (i := 76) rfl)) (hw _ (List.mem_of_getElem? (i := 75) rfl)) (by decide) (by decide)) (g := (mkF m 44 #[.val (.ref a1), .val (.ref a2), .val (.ref a2)] [(.ref b2), (.ref b1)])) rfl (by rw [hml]; rfl) (argsL := [(.ref b1), (.ref b2)]) (rest := []) (lenOf pd_6 rfl) rfl (by show 2 * 0 + _ ≤ _; exact Nat.le_of_eq rfl) (hb hby d10_44) (fun _ _ => ⟨rfl, e10, (by decide : 0 + 0 ≤ _), (by decide : 0 + 0 ≤ _)⟩))
  dsimp only [Pt.U] at st11
  have er11 : T11.heap = T11.heap := rfl
  obtain ⟨rfl, N11q, e11⟩ := hQ11
  have N11 := Fr.app N0 N11q
  replace X11 : Stand p l e ({ frames := 1, cells := 0, slots := 0, locals := 14 } : Room) s m _ below meth c T11 _ 0 0 := X11
  refine own_go st11 ?_
  show WP p e below _ (T11.setTop (mkF m 47 #[.val (.ref a1), .val (.ref a2), .val (.ref a2)] [(.int (f_rmLe_0_0))]))
  by_cases hc47_12 : (f_rmLe_0_0) = (0 : Int32)
  · refine own_go (fun t_ k => XS.ifYes X11.here hx rfl (pc0 := 47) (pc' := 54) rfl (hb hby d10_47) rfl ((if0 _ _).trans (teq hc47_12).1) (by decide) (by decide) k) ?_
    show WP p e below _ (T11.setTop (mkF m 54 #[.val (.ref a1), .val (.ref a2), .val (.ref a2)] []))
    refine own_go (fun t_ k => XS.iconst X11.here hx rfl (hb hby d10_54) k) ?_
    show WP p e below _ (T11.setTop (mkF m 55 #[.val (.ref a1), .val (.ref a2), .val (.ref a2)] [(.int (0 : Int32))]))
    exact own_retZ X11 hx Bd.notSynchronized Bd.returns (hb hby d10_55) (by decide) (⟨by rw [f_rmSe_0_0, if_pos hc47_12], N11, e11⟩) (by decide) (by decide)
  · refine own_go (fun t_ k => XS.ifNo X11.here hx rfl (hb hby d10_47) rfl ((if0 _ _).trans (feq hc47_12).1) k) ?_
    show WP p e below _ (T11.setTop (mkF m 50 #[.val (.ref a1), .val (.ref a2), .val (.ref a2)] []))
    refine own_go (fun t_ k => XS.iconst X11.here hx rfl (hb hby d10_50) k) ?_
    show WP p e below _ (T11.setTop (mkF m 51 #[.val (.ref a1), .val (.ref a2), .val (.ref a2)] [(.int (1 : Int32))]))
    refine own_go (fun t_ k => XS.goto X11.here hx rfl (pc0 := 51) (pc' := 55) rfl (hb hby d10_51) (by decide) (by decide) k) ?_
    show WP p e below _ (T11.setTop (mkF m 55 #[.val (.ref a1), .val (.ref a2), .val (.ref a2)] [(.int (1 : Int32))]))
    exact own_retZ X11 hx Bd.notSynchronized Bd.returns (hb hby d10_55) (by decide) (⟨by rw [f_rmSe_0_0, if_neg hc47_12], N11, e11⟩) (by decide) (by decide)
def f_rmSe_0_1 (w0 : Int32) (cs : Int32) : Int32 := (if (f_rmLe_0_1 w0) = (0 : Int32) then (0 : Int32) else (1 : Int32))
def Q_rmSe_0_1 (Z : State) (a1 : Addr) (a2 : Addr) (b1 : Addr) (b2 : Addr) (k1 : ClassId) (k2 : ClassId) (w0 : Int32) (cs : Int32) (h0 : Heap) (n0 : Nat) (v : Option Value) (h : Heap) (L : List Loc) : Prop := v = some (.int (f_rmSe_0_1 w0 cs)) ∧ Fr n0 L ∧ h = h0
theorem ef_rmSe_0_1 (m : MethodId) (x0 : Addr) (x1 : Addr) : entryFrame m #[(.ref x0), (.ref x1)] 3 = mkF m 0 #[.val (.ref x0), .val (.ref x1), .unset] [] := by first | (simp [entryFrame, mkF, argsToLocals, Value.category]; done) | rfl
set_option maxRecDepth 65536 in
set_option maxHeartbeats 40000000 in
theorem rmSe_0_1 (l : Launch) (Z : State) (a0 : Array Value) (hw : ∀ d ∈ tables_1, d.before a0 Z = true) (ws : List Jvm.Cond) (a1 : Addr) (a2 : Addr) (b1 : Addr) (b2 : Addr) (k1 : ClassId) (k2 : ClassId) (w0 : Int32) (cs : Int32) (h0 : Heap) (n0 : Nat) (Pf0 : Exa Z h0 a2 "java/lang/String") (Pf1 : Sta Z h0 "java/lang/String" "COMPACT_STRINGS" "Z" (.int cs)) (Pf2 : Fld Z h0 a1 "java/lang/String" "coder" "B" (.int (0 : Int32))) (Pf3 : Fld Z h0 a2 "java/lang/String" "coder" "B" (.int (0 : Int32))) (Pf4 : Fld Z h0 a1 "java/lang/String" "value" "[B" (.ref b1)) (Pf5 : Fld Z h0 a2 "java/lang/String" "value" "[B" (.ref b2)) (Pf6 : Arv Z h0 b1 k1 .byte (0 : Int32) [] (.int (0 : Int32))) (Pf7 : Arv Z h0 b2 k2 .byte (1 : Int32) [(.int w0)] (.int (0 : Int32))) (hne : a1 ≠ a2) (hcs : ¬ cs = (0 : Int32)) :
    MetFree l (⟨"java/lang/String", "equals", "(Ljava/lang/Object;)Z"⟩ : MethodName) (head1 (Jvm.Cond.code (⟨"java/lang/String", "equals", "(Ljava/lang/Object;)Z"⟩ : MethodName) jdk_42_method_66_code 3 (some .boolean) :: ws) ({ frames := 1, cells := 0, slots := 0, locals := 14 } : Room)) (fun a U => a = #[(.ref a1), (.ref a2)] ∧ Z.Warmed39 U.vm ∧ U.heap = h0) (fun _ _ _ _ _ => True) (fun _ U o U' => ∃ v L, o = .returned v ∧ (Q_rmSe_0_1 Z a1 a2 b1 b2 k1 k2 w0 cs h0 n0) v U'.heap L ∧ FrameEnd U o U' L ({ frames := 1, cells := 0, slots := 0, locals := 14 } : Room).cells ({ frames := 1, cells := 0, slots := 0, locals := 14 } : Room).slots) := by
  refine MetFree.of_bodySF (plainFor_of_name pn_1) hisR ?_
  intro p e s m args below meth c s₁ Bd hml0 hP hK
  obtain ⟨rfl, hZ, hh⟩ := hP
  have hx := Bd.exec
  have hby := Bd.bytes
  have hml : c.maxLocals = 3 := hml0
  have hown : s.vm.findClass "java/lang/String" = some m.cls := findClass_of_methodNamed Bd.named
  have hnm := (name_of_methodNamed Bd.named Bd.method).1
  have X0 : Stand p l e ({ frames := 1, cells := 0, slots := 0, locals := 14 } : Room) s m #[(.ref a1), (.ref a2)] below meth c s₁ [] 0 0 := Stand.of_body Bd
  have e0 : s₁.heap = h0 := by rw [← hh, Bd.state]; rfl
  have N0 := Fr.nil n0
  show WP p e below (GG (Q_rmSe_0_1 Z a1 a2 b1 b2 k1 k2 w0 cs h0 n0) s ({ frames := 1, cells := 0, slots := 0, locals := 14 } : Room).cells ({ frames := 1, cells := 0, slots := 0, locals := 14 } : Room).slots) (s₁.setTop (entryFrame m #[(.ref a1), (.ref a2)] 3))
  rw [ef_rmSe_0_1 m a1 a2]
  show WP p e below _ (s₁.setTop (mkF m 0 #[.val (.ref a1), .val (.ref a2), .unset] []))
  refine own_go (fun t_ k => XS.aloadN X0.here hx rfl (hb hby d10_0) rfl rfl k) ?_
  show WP p e below _ (s₁.setTop (mkF m 1 #[.val (.ref a1), .val (.ref a2), .unset] [(.ref a1)]))
  refine own_go (fun t_ k => XS.aloadN X0.here hx rfl (hb hby d10_1) rfl rfl k) ?_
  show WP p e below _ (s₁.setTop (mkF m 2 #[.val (.ref a1), .val (.ref a2), .unset] [(.ref a2), (.ref a1)]))
  refine own_go (fun t_ k => Jvm.RoadKit.acmp (g := (mkF m 2 #[.val (.ref a1), .val (.ref a2), .unset] [(.ref a2), (.ref a1)])) X0 hx rfl rfl rfl (pc0 := 2) (pc' := 7) (same := false) rfl (hb hby d10_2) rfl (decide_eq_false fun q => (hne) (Value.ref.inj q)) (by decide) (by decide) k) ?_
  show WP p e below _ (s₁.setTop (mkF m 7 #[.val (.ref a1), .val (.ref a2), .unset] []))
  refine own_go (fun t_ k => XS.aloadN X0.here hx rfl (hb hby d10_7) rfl rfl k) ?_
  show WP p e below _ (s₁.setTop (mkF m 8 #[.val (.ref a1), .val (.ref a2), .unset] [(.ref a2)]))
  obtain ⟨T1, X1, e1, st1⟩ := instY X0 hx hZ hown (hw _ (List.mem_of_getElem? (i := 71) rfl)) e0 (Ins.of_exa Pf0 (hw _ (List.mem_of_getElem? (i := 13) rfl))) (g := (mkF m 8 #[.val (.ref a1), .val (.ref a2), .unset] [(.ref a2)])) rfl rfl (hb hby d10_8)
  refine own_go st1 ?_
  show WP p e below _ (T1.setTop (mkF m 11 #[.val (.ref a1), .val (.ref a2), .unset] [(.int (1 : Int32))]))
  have hc11_2 : ¬ ((1 : Int32) = (0 : Int32)) := by decide
  refine own_go (fun t_ k => XS.ifNo X1.here hx rfl (hb hby d10_11) rfl ((if0 _ _).trans (feq hc11_2).1) k) ?_
  show WP p e below _ (T1.setTop (mkF m 14 #[.val (.ref a1), .val (.ref a2), .unset] []))
  refine own_go (fun t_ k => XS.aloadN X1.here hx rfl (hb hby d10_14) rfl rfl k) ?_
  show WP p e below _ (T1.setTop (mkF m 15 #[.val (.ref a1), .val (.ref a2), .unset] [(.ref a2)]))
  obtain ⟨T3, X3, e3, st3⟩ := castY X1 hx hZ hown (hw _ (List.mem_of_getElem? (i := 71) rfl)) e1 (Ins.of_exa Pf0 (hw _ (List.mem_of_getElem? (i := 13) rfl))) (g := (mkF m 15 #[.val (.ref a1), .val (.ref a2), .unset] [(.ref a2)])) rfl rfl (hb hby d10_15)
  refine own_go st3 ?_
  show WP p e below _ (T3.setTop (mkF m 18 #[.val (.ref a1), .val (.ref a2), .unset] [(.ref a2)]))
  refine own_go (fun t_ k => XS.astoreN X3.here hx rfl (hb hby d10_18) rfl rfl (l' := #[.val (.ref a1), .val (.ref a2), .val (.ref a2)]) rfl k) ?_
  show WP p e below _ (T3.setTop (mkF m 19 #[.val (.ref a1), .val (.ref a2), .val (.ref a2)] []))
  obtain ⟨T4, X4, e4, st4⟩ := getS2 X3 hx hZ hown (host := "") (Or.inl (hw _ (List.mem_of_getElem? (i := 72) rfl))) Via.refl e3 Pf1 (g := (mkF m 19 #[.val (.ref a1), .val (.ref a2), .val (.ref a2)] [])) rfl (hb hby d10_19)
  refine own_go st4 ?_
  show WP p e below _ (T4.setTop (mkF m 22 #[.val (.ref a1), .val (.ref a2), .val (.ref a2)] [(.int cs)]))
  have hc22_5 : ¬ (cs = (0 : Int32)) := hcs
  refine own_go (fun t_ k => XS.ifNo X4.here hx rfl (hb hby d10_22) rfl ((if0 _ _).trans (feq hc22_5).1) k) ?_
  show WP p e below _ (T4.setTop (mkF m 25 #[.val (.ref a1), .val (.ref a2), .val (.ref a2)] []))
  refine own_go (fun t_ k => XS.aloadN X4.here hx rfl (hb hby d10_25) rfl rfl k) ?_
  show WP p e below _ (T4.setTop (mkF m 26 #[.val (.ref a1), .val (.ref a2), .val (.ref a2)] [(.ref a1)]))
  obtain ⟨T6, X6, e6, st6⟩ := getF X4 hx hZ hown (host := "") (Or.inl (hw _ (List.mem_of_getElem? (i := 25) rfl))) Via.refl e4 Pf2 (g := (mkF m 26 #[.val (.ref a1), .val (.ref a2), .val (.ref a2)] [(.ref a1)])) rfl rfl (hb hby d10_26)
  refine own_go st6 ?_
  show WP p e below _ (T6.setTop (mkF m 29 #[.val (.ref a1), .val (.ref a2), .val (.ref a2)] [(.int (0 : Int32))]))
  refine own_go (fun t_ k => XS.aloadN X6.here hx rfl (hb hby d10_29) rfl rfl k) ?_
  show WP p e below _ (T6.setTop (mkF m 30 #[.val (.ref a1), .val (.ref a2), .val (.ref a2)] [(.ref a2), (.int (0 : Int32))]))
  obtain ⟨T7, X7, e7, st7⟩ := getF X6 hx hZ hown (host := "") (Or.inl (hw _ (List.mem_of_getElem? (i := 25) rfl))) Via.refl e6 Pf3 (g := (mkF m 30 #[.val (.ref a1), .val (.ref a2), .val (.ref a2)] [(.ref a2), (.int (0 : Int32))])) rfl rfl (hb hby d10_30)
  refine own_go st7 ?_
  show WP p e below _ (T7.setTop (mkF m 33 #[.val (.ref a1), .val (.ref a2), .val (.ref a2)] [(.int (0 : Int32)), (.int (0 : Int32))]))
  have hc33_8 : ((0 : Int32) = (0 : Int32)) := by decide
  refine own_go (fun t_ k => XS.icmpNo X7.here hx rfl (hb hby d10_33) rfl (teq hc33_8).2 k) ?_
  show WP p e below _ (T7.setTop (mkF m 36 #[.val (.ref a1), .val (.ref a2), .val (.ref a2)] []))
  refine own_go (fun t_ k => XS.aloadN X7.here hx rfl (hb hby d10_36) rfl rfl k) ?_
  show WP p e below _ (T7.setTop (mkF m 37 #[.val (.ref a1), .val (.ref a2), .val (.ref a2)] [(.ref a1)]))
  obtain ⟨T9, X9, e9, st9⟩ := getF X7 hx hZ hown (host := "") (Or.inl (hw _ (List.mem_of_getElem? (i := 24) rfl))) Via.refl e7 Pf4 (g := (mkF m 37 #[.val (.ref a1), .val (.ref a2), .val (.ref a2)] [(.ref a1)])) rfl rfl (hb hby d10_37)
  refine own_go st9 ?_
  show WP p e below _ (T9.setTop (mkF m 40 #[.val (.ref a1), .val (.ref a2), .val (.ref a2)] [(.ref b1)]))
  refine own_go (fun t_ k => XS.aloadN X9.here hx rfl (hb hby d10_40) rfl rfl k) ?_
  show WP p e below _ (T9.setTop (mkF m 41 #[.val (.ref a1), .val (.ref a2), .val (.ref a2)] [(.ref a2), (.ref b1)]))
  obtain ⟨T10, X10, e10, st10⟩ := getF X9 hx hZ hown (host := "") (Or.inl (hw _ (List.mem_of_getElem? (i := 24) rfl))) Via.refl e9 Pf5 (g := (mkF m 41 #[.val (.ref a1), .val (.ref a2), .val (.ref a2)] [(.ref a2), (.ref b1)])) rfl rfl (hb hby d10_41)
  refine own_go st10 ?_
  show WP p e below _ (T10.setTop (mkF m 44 #[.val (.ref a1), .val (.ref a2), .val (.ref a2)] [(.ref b2), (.ref b1)]))
  obtain ⟨_, T11, Lc11, X11, hQ11, st11⟩ := own_un X10 0 0 (Jvm.LawKit.callS X10 hx (y := (⟨"java/lang/StringLatin1", "equals", "([B[B)Z"⟩ : MethodName)) hown (mvT hZ (hw _ (List.mem_of_getElem? (i := 73) rfl))) (mvT hZ (hw _ (List.mem_of_getElem? (i := 74) rfl))) (mvT hZ (hw _ (List.mem_of_getElem? (i := 75) rfl))) (mvT hZ (hw _ (List.mem_of_getElem? (i := 76) rfl))) (by decide) (backOf (W := 0) (rmLe_0_1 l Z a0 hw [] b1 b2 k1 k2 w0 h0 n0 Pf6 Pf7 ) hZ (hw _ (List.mem_of_getElem? (i := 76) rfl)) (hw _ (List.mem_of_getElem? (i := 75) rfl)) (by decide) (by decide)) (g := (mkF m 44 #[.val (.ref a1), .val (.ref a2), .val (.ref a2)] [(.ref b2), (.ref b1)])) rfl (by rw [hml]; rfl) (argsL := [(.ref b1), (.ref b2)]) (rest := []) (lenOf pd_6 rfl) rfl (by show 2 * 0 + _ ≤ _; exact Nat.le_of_eq rfl) (hb hby d10_44) (fun _ _ => ⟨rfl, e10, (by decide : 0 + 0 ≤ _), (by decide : 0 + 0 ≤ _)⟩))
  dsimp only [Pt.U] at st11
  have er11 : T11.heap = T11.heap := rfl
  obtain ⟨rfl, N11q, e11⟩ := hQ11
  have N11 := Fr.app N0 N11q
  replace X11 : Stand p l e ({ frames := 1, cells := 0, slots := 0, locals := 14 } : Room) s m _ below meth c T11 _ 0 0 := X11
  refine own_go st11 ?_
  show WP p e below _ (T11.setTop (mkF m 47 #[.val (.ref a1), .val (.ref a2), .val (.ref a2)] [(.int (f_rmLe_0_1 w0))]))
  by_cases hc47_12 : (f_rmLe_0_1 w0) = (0 : Int32)
  · refine own_go (fun t_ k => XS.ifYes X11.here hx rfl (pc0 := 47) (pc' := 54) rfl (hb hby d10_47) rfl ((if0 _ _).trans (teq hc47_12).1) (by decide) (by decide) k) ?_
    show WP p e below _ (T11.setTop (mkF m 54 #[.val (.ref a1), .val (.ref a2), .val (.ref a2)] []))
    refine own_go (fun t_ k => XS.iconst X11.here hx rfl (hb hby d10_54) k) ?_
    show WP p e below _ (T11.setTop (mkF m 55 #[.val (.ref a1), .val (.ref a2), .val (.ref a2)] [(.int (0 : Int32))]))
    exact own_retZ X11 hx Bd.notSynchronized Bd.returns (hb hby d10_55) (by decide) (⟨by rw [f_rmSe_0_1, if_pos hc47_12], N11, e11⟩) (by decide) (by decide)
  · refine own_go (fun t_ k => XS.ifNo X11.here hx rfl (hb hby d10_47) rfl ((if0 _ _).trans (feq hc47_12).1) k) ?_
    show WP p e below _ (T11.setTop (mkF m 50 #[.val (.ref a1), .val (.ref a2), .val (.ref a2)] []))
    refine own_go (fun t_ k => XS.iconst X11.here hx rfl (hb hby d10_50) k) ?_
    show WP p e below _ (T11.setTop (mkF m 51 #[.val (.ref a1), .val (.ref a2), .val (.ref a2)] [(.int (1 : Int32))]))
    refine own_go (fun t_ k => XS.goto X11.here hx rfl (pc0 := 51) (pc' := 55) rfl (hb hby d10_51) (by decide) (by decide) k) ?_
    show WP p e below _ (T11.setTop (mkF m 55 #[.val (.ref a1), .val (.ref a2), .val (.ref a2)] [(.int (1 : Int32))]))
    exact own_retZ X11 hx Bd.notSynchronized Bd.returns (hb hby d10_55) (by decide) (⟨by rw [f_rmSe_0_1, if_neg hc47_12], N11, e11⟩) (by decide) (by decide)
def f_rmSe_0_2 (w0 : Int32) (w1 : Int32) (cs : Int32) : Int32 := (if (f_rmLe_0_2 w0 w1) = (0 : Int32) then (0 : Int32) else (1 : Int32))
def Q_rmSe_0_2 (Z : State) (a1 : Addr) (a2 : Addr) (b1 : Addr) (b2 : Addr) (k1 : ClassId) (k2 : ClassId) (w0 : Int32) (w1 : Int32) (cs : Int32) (h0 : Heap) (n0 : Nat) (v : Option Value) (h : Heap) (L : List Loc) : Prop := v = some (.int (f_rmSe_0_2 w0 w1 cs)) ∧ Fr n0 L ∧ h = h0
theorem ef_rmSe_0_2 (m : MethodId) (x0 : Addr) (x1 : Addr) : entryFrame m #[(.ref x0), (.ref x1)] 3 = mkF m 0 #[.val (.ref x0), .val (.ref x1), .unset] [] := by first | (simp [entryFrame, mkF, argsToLocals, Value.category]; done) | rfl
set_option maxRecDepth 65536 in
set_option maxHeartbeats 40000000 in
theorem rmSe_0_2 (l : Launch) (Z : State) (a0 : Array Value) (hw : ∀ d ∈ tables_1, d.before a0 Z = true) (ws : List Jvm.Cond) (a1 : Addr) (a2 : Addr) (b1 : Addr) (b2 : Addr) (k1 : ClassId) (k2 : ClassId) (w0 : Int32) (w1 : Int32) (cs : Int32) (h0 : Heap) (n0 : Nat) (Pf0 : Exa Z h0 a2 "java/lang/String") (Pf1 : Sta Z h0 "java/lang/String" "COMPACT_STRINGS" "Z" (.int cs)) (Pf2 : Fld Z h0 a1 "java/lang/String" "coder" "B" (.int (0 : Int32))) (Pf3 : Fld Z h0 a2 "java/lang/String" "coder" "B" (.int (0 : Int32))) (Pf4 : Fld Z h0 a1 "java/lang/String" "value" "[B" (.ref b1)) (Pf5 : Fld Z h0 a2 "java/lang/String" "value" "[B" (.ref b2)) (Pf6 : Arv Z h0 b1 k1 .byte (0 : Int32) [] (.int (0 : Int32))) (Pf7 : Arv Z h0 b2 k2 .byte (2 : Int32) [(.int w0), (.int w1)] (.int (0 : Int32))) (hne : a1 ≠ a2) (hcs : ¬ cs = (0 : Int32)) :
    MetFree l (⟨"java/lang/String", "equals", "(Ljava/lang/Object;)Z"⟩ : MethodName) (head1 (Jvm.Cond.code (⟨"java/lang/String", "equals", "(Ljava/lang/Object;)Z"⟩ : MethodName) jdk_42_method_66_code 3 (some .boolean) :: ws) ({ frames := 1, cells := 0, slots := 0, locals := 14 } : Room)) (fun a U => a = #[(.ref a1), (.ref a2)] ∧ Z.Warmed39 U.vm ∧ U.heap = h0) (fun _ _ _ _ _ => True) (fun _ U o U' => ∃ v L, o = .returned v ∧ (Q_rmSe_0_2 Z a1 a2 b1 b2 k1 k2 w0 w1 cs h0 n0) v U'.heap L ∧ FrameEnd U o U' L ({ frames := 1, cells := 0, slots := 0, locals := 14 } : Room).cells ({ frames := 1, cells := 0, slots := 0, locals := 14 } : Room).slots) := by
  refine MetFree.of_bodySF (plainFor_of_name pn_1) hisR ?_
  intro p e s m args below meth c s₁ Bd hml0 hP hK
  obtain ⟨rfl, hZ, hh⟩ := hP
  have hx := Bd.exec
  have hby := Bd.bytes
  have hml : c.maxLocals = 3 := hml0
  have hown : s.vm.findClass "java/lang/String" = some m.cls := findClass_of_methodNamed Bd.named
  have hnm := (name_of_methodNamed Bd.named Bd.method).1
  have X0 : Stand p l e ({ frames := 1, cells := 0, slots := 0, locals := 14 } : Room) s m #[(.ref a1), (.ref a2)] below meth c s₁ [] 0 0 := Stand.of_body Bd
  have e0 : s₁.heap = h0 := by rw [← hh, Bd.state]; rfl
  have N0 := Fr.nil n0
  show WP p e below (GG (Q_rmSe_0_2 Z a1 a2 b1 b2 k1 k2 w0 w1 cs h0 n0) s ({ frames := 1, cells := 0, slots := 0, locals := 14 } : Room).cells ({ frames := 1, cells := 0, slots := 0, locals := 14 } : Room).slots) (s₁.setTop (entryFrame m #[(.ref a1), (.ref a2)] 3))
  rw [ef_rmSe_0_2 m a1 a2]
  show WP p e below _ (s₁.setTop (mkF m 0 #[.val (.ref a1), .val (.ref a2), .unset] []))
  refine own_go (fun t_ k => XS.aloadN X0.here hx rfl (hb hby d10_0) rfl rfl k) ?_
  show WP p e below _ (s₁.setTop (mkF m 1 #[.val (.ref a1), .val (.ref a2), .unset] [(.ref a1)]))
  refine own_go (fun t_ k => XS.aloadN X0.here hx rfl (hb hby d10_1) rfl rfl k) ?_
  show WP p e below _ (s₁.setTop (mkF m 2 #[.val (.ref a1), .val (.ref a2), .unset] [(.ref a2), (.ref a1)]))
  refine own_go (fun t_ k => Jvm.RoadKit.acmp (g := (mkF m 2 #[.val (.ref a1), .val (.ref a2), .unset] [(.ref a2), (.ref a1)])) X0 hx rfl rfl rfl (pc0 := 2) (pc' := 7) (same := false) rfl (hb hby d10_2) rfl (decide_eq_false fun q => (hne) (Value.ref.inj q)) (by decide) (by decide) k) ?_
  show WP p e below _ (s₁.setTop (mkF m 7 #[.val (.ref a1), .val (.ref a2), .unset] []))
  refine own_go (fun t_ k => XS.aloadN X0.here hx rfl (hb hby d10_7) rfl rfl k) ?_
  show WP p e below _ (s₁.setTop (mkF m 8 #[.val (.ref a1), .val (.ref a2), .unset] [(.ref a2)]))
  obtain ⟨T1, X1, e1, st1⟩ := instY X0 hx hZ hown (hw _ (List.mem_of_getElem? (i := 71) rfl)) e0 (Ins.of_exa Pf0 (hw _ (List.mem_of_getElem? (i := 13) rfl))) (g := (mkF m 8 #[.val (.ref a1), .val (.ref a2), .unset] [(.ref a2)])) rfl rfl (hb hby d10_8)
  refine own_go st1 ?_
  show WP p e below _ (T1.setTop (mkF m 11 #[.val (.ref a1), .val (.ref a2), .unset] [(.int (1 : Int32))]))
  have hc11_2 : ¬ ((1 : Int32) = (0 : Int32)) := by decide
  refine own_go (fun t_ k => XS.ifNo X1.here hx rfl (hb hby d10_11) rfl ((if0 _ _).trans (feq hc11_2).1) k) ?_
  show WP p e below _ (T1.setTop (mkF m 14 #[.val (.ref a1), .val (.ref a2), .unset] []))
  refine own_go (fun t_ k => XS.aloadN X1.here hx rfl (hb hby d10_14) rfl rfl k) ?_
  show WP p e below _ (T1.setTop (mkF m 15 #[.val (.ref a1), .val (.ref a2), .unset] [(.ref a2)]))
  obtain ⟨T3, X3, e3, st3⟩ := castY X1 hx hZ hown (hw _ (List.mem_of_getElem? (i := 71) rfl)) e1 (Ins.of_exa Pf0 (hw _ (List.mem_of_getElem? (i := 13) rfl))) (g := (mkF m 15 #[.val (.ref a1), .val (.ref a2), .unset] [(.ref a2)])) rfl rfl (hb hby d10_15)
  refine own_go st3 ?_
  show WP p e below _ (T3.setTop (mkF m 18 #[.val (.ref a1), .val (.ref a2), .unset] [(.ref a2)]))
  refine own_go (fun t_ k => XS.astoreN X3.here hx rfl (hb hby d10_18) rfl rfl (l' := #[.val (.ref a1), .val (.ref a2), .val (.ref a2)]) rfl k) ?_
  show WP p e below _ (T3.setTop (mkF m 19 #[.val (.ref a1), .val (.ref a2), .val (.ref a2)] []))
  obtain ⟨T4, X4, e4, st4⟩ := getS2 X3 hx hZ hown (host := "") (Or.inl (hw _ (List.mem_of_getElem? (i := 72) rfl))) Via.refl e3 Pf1 (g := (mkF m 19 #[.val (.ref a1), .val (.ref a2), .val (.ref a2)] [])) rfl (hb hby d10_19)
  refine own_go st4 ?_
  show WP p e below _ (T4.setTop (mkF m 22 #[.val (.ref a1), .val (.ref a2), .val (.ref a2)] [(.int cs)]))
  have hc22_5 : ¬ (cs = (0 : Int32)) := hcs
  refine own_go (fun t_ k => XS.ifNo X4.here hx rfl (hb hby d10_22) rfl ((if0 _ _).trans (feq hc22_5).1) k) ?_
  show WP p e below _ (T4.setTop (mkF m 25 #[.val (.ref a1), .val (.ref a2), .val (.ref a2)] []))
  refine own_go (fun t_ k => XS.aloadN X4.here hx rfl (hb hby d10_25) rfl rfl k) ?_
  show WP p e below _ (T4.setTop (mkF m 26 #[.val (.ref a1), .val (.ref a2), .val (.ref a2)] [(.ref a1)]))
  obtain ⟨T6, X6, e6, st6⟩ := getF X4 hx hZ hown (host := "") (Or.inl (hw _ (List.mem_of_getElem? (i := 25) rfl))) Via.refl e4 Pf2 (g := (mkF m 26 #[.val (.ref a1), .val (.ref a2), .val (.ref a2)] [(.ref a1)])) rfl rfl (hb hby d10_26)
  refine own_go st6 ?_
  show WP p e below _ (T6.setTop (mkF m 29 #[.val (.ref a1), .val (.ref a2), .val (.ref a2)] [(.int (0 : Int32))]))
  refine own_go (fun t_ k => XS.aloadN X6.here hx rfl (hb hby d10_29) rfl rfl k) ?_
  show WP p e below _ (T6.setTop (mkF m 30 #[.val (.ref a1), .val (.ref a2), .val (.ref a2)] [(.ref a2), (.int (0 : Int32))]))
  obtain ⟨T7, X7, e7, st7⟩ := getF X6 hx hZ hown (host := "") (Or.inl (hw _ (List.mem_of_getElem? (i := 25) rfl))) Via.refl e6 Pf3 (g := (mkF m 30 #[.val (.ref a1), .val (.ref a2), .val (.ref a2)] [(.ref a2), (.int (0 : Int32))])) rfl rfl (hb hby d10_30)
  refine own_go st7 ?_
  show WP p e below _ (T7.setTop (mkF m 33 #[.val (.ref a1), .val (.ref a2), .val (.ref a2)] [(.int (0 : Int32)), (.int (0 : Int32))]))
  have hc33_8 : ((0 : Int32) = (0 : Int32)) := by decide
  refine own_go (fun t_ k => XS.icmpNo X7.here hx rfl (hb hby d10_33) rfl (teq hc33_8).2 k) ?_
  show WP p e below _ (T7.setTop (mkF m 36 #[.val (.ref a1), .val (.ref a2), .val (.ref a2)] []))
  refine own_go (fun t_ k => XS.aloadN X7.here hx rfl (hb hby d10_36) rfl rfl k) ?_
  show WP p e below _ (T7.setTop (mkF m 37 #[.val (.ref a1), .val (.ref a2), .val (.ref a2)] [(.ref a1)]))
  obtain ⟨T9, X9, e9, st9⟩ := getF X7 hx hZ hown (host := "") (Or.inl (hw _ (List.mem_of_getElem? (i := 24) rfl))) Via.refl e7 Pf4 (g := (mkF m 37 #[.val (.ref a1), .val (.ref a2), .val (.ref a2)] [(.ref a1)])) rfl rfl (hb hby d10_37)
  refine own_go st9 ?_
  show WP p e below _ (T9.setTop (mkF m 40 #[.val (.ref a1), .val (.ref a2), .val (.ref a2)] [(.ref b1)]))
  refine own_go (fun t_ k => XS.aloadN X9.here hx rfl (hb hby d10_40) rfl rfl k) ?_
  show WP p e below _ (T9.setTop (mkF m 41 #[.val (.ref a1), .val (.ref a2), .val (.ref a2)] [(.ref a2), (.ref b1)]))
  obtain ⟨T10, X10, e10, st10⟩ := getF X9 hx hZ hown (host := "") (Or.inl (hw _ (List.mem_of_getElem? (i := 24) rfl))) Via.refl e9 Pf5 (g := (mkF m 41 #[.val (.ref a1), .val (.ref a2), .val (.ref a2)] [(.ref a2), (.ref b1)])) rfl rfl (hb hby d10_41)
  refine own_go st10 ?_
  show WP p e below _ (T10.setTop (mkF m 44 #[.val (.ref a1), .val (.ref a2), .val (.ref a2)] [(.ref b2), (.ref b1)]))
  obtain ⟨_, T11, Lc11, X11, hQ11, st11⟩ := own_un X10 0 0 (Jvm.LawKit.callS X10 hx (y := (⟨"java/lang/StringLatin1", "equals", "([B[B)Z"⟩ : MethodName)) hown (mvT hZ (hw _ (List.mem_of_getElem? (i := 73) rfl))) (mvT hZ (hw _ (List.mem_of_getElem? (i := 74) rfl))) (mvT hZ (hw _ (List.mem_of_getElem? (i := 75) rfl))) (mvT hZ (hw _ (List.mem_of_getElem? (i := 76) rfl))) (by decide) (backOf (W := 0) (rmLe_0_2 l Z a0 hw [] b1 b2 k1 k2 w0 w1 h0 n0 Pf6 Pf7 ) hZ (hw _ (List.mem_of_getElem? (i := 76) rfl)) (hw _ (List.mem_of_getElem? (i := 75) rfl)) (by decide) (by decide)) (g := (mkF m 44 #[.val (.ref a1), .val (.ref a2), .val (.ref a2)] [(.ref b2), (.ref b1)])) rfl (by rw [hml]; rfl) (argsL := [(.ref b1), (.ref b2)]) (rest := []) (lenOf pd_6 rfl) rfl (by show 2 * 0 + _ ≤ _; exact Nat.le_of_eq rfl) (hb hby d10_44) (fun _ _ => ⟨rfl, e10, (by decide : 0 + 0 ≤ _), (by decide : 0 + 0 ≤ _)⟩))
  dsimp only [Pt.U] at st11
  have er11 : T11.heap = T11.heap := rfl
  obtain ⟨rfl, N11q, e11⟩ := hQ11
  have N11 := Fr.app N0 N11q
  replace X11 : Stand p l e ({ frames := 1, cells := 0, slots := 0, locals := 14 } : Room) s m _ below meth c T11 _ 0 0 := X11
  refine own_go st11 ?_
  show WP p e below _ (T11.setTop (mkF m 47 #[.val (.ref a1), .val (.ref a2), .val (.ref a2)] [(.int (f_rmLe_0_2 w0 w1))]))
  by_cases hc47_12 : (f_rmLe_0_2 w0 w1) = (0 : Int32)
  · refine own_go (fun t_ k => XS.ifYes X11.here hx rfl (pc0 := 47) (pc' := 54) rfl (hb hby d10_47) rfl ((if0 _ _).trans (teq hc47_12).1) (by decide) (by decide) k) ?_
    show WP p e below _ (T11.setTop (mkF m 54 #[.val (.ref a1), .val (.ref a2), .val (.ref a2)] []))
    refine own_go (fun t_ k => XS.iconst X11.here hx rfl (hb hby d10_54) k) ?_
    show WP p e below _ (T11.setTop (mkF m 55 #[.val (.ref a1), .val (.ref a2), .val (.ref a2)] [(.int (0 : Int32))]))
    exact own_retZ X11 hx Bd.notSynchronized Bd.returns (hb hby d10_55) (by decide) (⟨by rw [f_rmSe_0_2, if_pos hc47_12], N11, e11⟩) (by decide) (by decide)
  · refine own_go (fun t_ k => XS.ifNo X11.here hx rfl (hb hby d10_47) rfl ((if0 _ _).trans (feq hc47_12).1) k) ?_
    show WP p e below _ (T11.setTop (mkF m 50 #[.val (.ref a1), .val (.ref a2), .val (.ref a2)] []))
    refine own_go (fun t_ k => XS.iconst X11.here hx rfl (hb hby d10_50) k) ?_
    show WP p e below _ (T11.setTop (mkF m 51 #[.val (.ref a1), .val (.ref a2), .val (.ref a2)] [(.int (1 : Int32))]))
    refine own_go (fun t_ k => XS.goto X11.here hx rfl (pc0 := 51) (pc' := 55) rfl (hb hby d10_51) (by decide) (by decide) k) ?_
    show WP p e below _ (T11.setTop (mkF m 55 #[.val (.ref a1), .val (.ref a2), .val (.ref a2)] [(.int (1 : Int32))]))
    exact own_retZ X11 hx Bd.notSynchronized Bd.returns (hb hby d10_55) (by decide) (⟨by rw [f_rmSe_0_2, if_neg hc47_12], N11, e11⟩) (by decide) (by decide)
def f_rmSe_1_0 (u0 : Int32) (cs : Int32) : Int32 := (if (f_rmLe_1_0 u0) = (0 : Int32) then (0 : Int32) else (1 : Int32))
def Q_rmSe_1_0 (Z : State) (a1 : Addr) (a2 : Addr) (b1 : Addr) (b2 : Addr) (k1 : ClassId) (k2 : ClassId) (u0 : Int32) (cs : Int32) (h0 : Heap) (n0 : Nat) (v : Option Value) (h : Heap) (L : List Loc) : Prop := v = some (.int (f_rmSe_1_0 u0 cs)) ∧ Fr n0 L ∧ h = h0
theorem ef_rmSe_1_0 (m : MethodId) (x0 : Addr) (x1 : Addr) : entryFrame m #[(.ref x0), (.ref x1)] 3 = mkF m 0 #[.val (.ref x0), .val (.ref x1), .unset] [] := by first | (simp [entryFrame, mkF, argsToLocals, Value.category]; done) | rfl
set_option maxRecDepth 65536 in
set_option maxHeartbeats 40000000 in
theorem rmSe_1_0 (l : Launch) (Z : State) (a0 : Array Value) (hw : ∀ d ∈ tables_1, d.before a0 Z = true) (ws : List Jvm.Cond) (a1 : Addr) (a2 : Addr) (b1 : Addr) (b2 : Addr) (k1 : ClassId) (k2 : ClassId) (u0 : Int32) (cs : Int32) (h0 : Heap) (n0 : Nat) (Pf0 : Exa Z h0 a2 "java/lang/String") (Pf1 : Sta Z h0 "java/lang/String" "COMPACT_STRINGS" "Z" (.int cs)) (Pf2 : Fld Z h0 a1 "java/lang/String" "coder" "B" (.int (0 : Int32))) (Pf3 : Fld Z h0 a2 "java/lang/String" "coder" "B" (.int (0 : Int32))) (Pf4 : Fld Z h0 a1 "java/lang/String" "value" "[B" (.ref b1)) (Pf5 : Fld Z h0 a2 "java/lang/String" "value" "[B" (.ref b2)) (Pf6 : Arv Z h0 b1 k1 .byte (1 : Int32) [(.int u0)] (.int (0 : Int32))) (Pf7 : Arv Z h0 b2 k2 .byte (0 : Int32) [] (.int (0 : Int32))) (hne : a1 ≠ a2) (hcs : ¬ cs = (0 : Int32)) :
    MetFree l (⟨"java/lang/String", "equals", "(Ljava/lang/Object;)Z"⟩ : MethodName) (head1 (Jvm.Cond.code (⟨"java/lang/String", "equals", "(Ljava/lang/Object;)Z"⟩ : MethodName) jdk_42_method_66_code 3 (some .boolean) :: ws) ({ frames := 1, cells := 0, slots := 0, locals := 14 } : Room)) (fun a U => a = #[(.ref a1), (.ref a2)] ∧ Z.Warmed39 U.vm ∧ U.heap = h0) (fun _ _ _ _ _ => True) (fun _ U o U' => ∃ v L, o = .returned v ∧ (Q_rmSe_1_0 Z a1 a2 b1 b2 k1 k2 u0 cs h0 n0) v U'.heap L ∧ FrameEnd U o U' L ({ frames := 1, cells := 0, slots := 0, locals := 14 } : Room).cells ({ frames := 1, cells := 0, slots := 0, locals := 14 } : Room).slots) := by
  refine MetFree.of_bodySF (plainFor_of_name pn_1) hisR ?_
  intro p e s m args below meth c s₁ Bd hml0 hP hK
  obtain ⟨rfl, hZ, hh⟩ := hP
  have hx := Bd.exec
  have hby := Bd.bytes
  have hml : c.maxLocals = 3 := hml0
  have hown : s.vm.findClass "java/lang/String" = some m.cls := findClass_of_methodNamed Bd.named
  have hnm := (name_of_methodNamed Bd.named Bd.method).1
  have X0 : Stand p l e ({ frames := 1, cells := 0, slots := 0, locals := 14 } : Room) s m #[(.ref a1), (.ref a2)] below meth c s₁ [] 0 0 := Stand.of_body Bd
  have e0 : s₁.heap = h0 := by rw [← hh, Bd.state]; rfl
  have N0 := Fr.nil n0
  show WP p e below (GG (Q_rmSe_1_0 Z a1 a2 b1 b2 k1 k2 u0 cs h0 n0) s ({ frames := 1, cells := 0, slots := 0, locals := 14 } : Room).cells ({ frames := 1, cells := 0, slots := 0, locals := 14 } : Room).slots) (s₁.setTop (entryFrame m #[(.ref a1), (.ref a2)] 3))
  rw [ef_rmSe_1_0 m a1 a2]
  show WP p e below _ (s₁.setTop (mkF m 0 #[.val (.ref a1), .val (.ref a2), .unset] []))
  refine own_go (fun t_ k => XS.aloadN X0.here hx rfl (hb hby d10_0) rfl rfl k) ?_
  show WP p e below _ (s₁.setTop (mkF m 1 #[.val (.ref a1), .val (.ref a2), .unset] [(.ref a1)]))
  refine own_go (fun t_ k => XS.aloadN X0.here hx rfl (hb hby d10_1) rfl rfl k) ?_
  show WP p e below _ (s₁.setTop (mkF m 2 #[.val (.ref a1), .val (.ref a2), .unset] [(.ref a2), (.ref a1)]))
  refine own_go (fun t_ k => Jvm.RoadKit.acmp (g := (mkF m 2 #[.val (.ref a1), .val (.ref a2), .unset] [(.ref a2), (.ref a1)])) X0 hx rfl rfl rfl (pc0 := 2) (pc' := 7) (same := false) rfl (hb hby d10_2) rfl (decide_eq_false fun q => (hne) (Value.ref.inj q)) (by decide) (by decide) k) ?_
  show WP p e below _ (s₁.setTop (mkF m 7 #[.val (.ref a1), .val (.ref a2), .unset] []))
  refine own_go (fun t_ k => XS.aloadN X0.here hx rfl (hb hby d10_7) rfl rfl k) ?_
  show WP p e below _ (s₁.setTop (mkF m 8 #[.val (.ref a1), .val (.ref a2), .unset] [(.ref a2)]))
  obtain ⟨T1, X1, e1, st1⟩ := instY X0 hx hZ hown (hw _ (List.mem_of_getElem? (i := 71) rfl)) e0 (Ins.of_exa Pf0 (hw _ (List.mem_of_getElem? (i := 13) rfl))) (g := (mkF m 8 #[.val (.ref a1), .val (.ref a2), .unset] [(.ref a2)])) rfl rfl (hb hby d10_8)
  refine own_go st1 ?_
  show WP p e below _ (T1.setTop (mkF m 11 #[.val (.ref a1), .val (.ref a2), .unset] [(.int (1 : Int32))]))
  have hc11_2 : ¬ ((1 : Int32) = (0 : Int32)) := by decide
  refine own_go (fun t_ k => XS.ifNo X1.here hx rfl (hb hby d10_11) rfl ((if0 _ _).trans (feq hc11_2).1) k) ?_
  show WP p e below _ (T1.setTop (mkF m 14 #[.val (.ref a1), .val (.ref a2), .unset] []))
  refine own_go (fun t_ k => XS.aloadN X1.here hx rfl (hb hby d10_14) rfl rfl k) ?_
  show WP p e below _ (T1.setTop (mkF m 15 #[.val (.ref a1), .val (.ref a2), .unset] [(.ref a2)]))
  obtain ⟨T3, X3, e3, st3⟩ := castY X1 hx hZ hown (hw _ (List.mem_of_getElem? (i := 71) rfl)) e1 (Ins.of_exa Pf0 (hw _ (List.mem_of_getElem? (i := 13) rfl))) (g := (mkF m 15 #[.val (.ref a1), .val (.ref a2), .unset] [(.ref a2)])) rfl rfl (hb hby d10_15)
  refine own_go st3 ?_
  show WP p e below _ (T3.setTop (mkF m 18 #[.val (.ref a1), .val (.ref a2), .unset] [(.ref a2)]))
  refine own_go (fun t_ k => XS.astoreN X3.here hx rfl (hb hby d10_18) rfl rfl (l' := #[.val (.ref a1), .val (.ref a2), .val (.ref a2)]) rfl k) ?_
  show WP p e below _ (T3.setTop (mkF m 19 #[.val (.ref a1), .val (.ref a2), .val (.ref a2)] []))
  obtain ⟨T4, X4, e4, st4⟩ := getS2 X3 hx hZ hown (host := "") (Or.inl (hw _ (List.mem_of_getElem? (i := 72) rfl))) Via.refl e3 Pf1 (g := (mkF m 19 #[.val (.ref a1), .val (.ref a2), .val (.ref a2)] [])) rfl (hb hby d10_19)
  refine own_go st4 ?_
  show WP p e below _ (T4.setTop (mkF m 22 #[.val (.ref a1), .val (.ref a2), .val (.ref a2)] [(.int cs)]))
  have hc22_5 : ¬ (cs = (0 : Int32)) := hcs
  refine own_go (fun t_ k => XS.ifNo X4.here hx rfl (hb hby d10_22) rfl ((if0 _ _).trans (feq hc22_5).1) k) ?_
  show WP p e below _ (T4.setTop (mkF m 25 #[.val (.ref a1), .val (.ref a2), .val (.ref a2)] []))
  refine own_go (fun t_ k => XS.aloadN X4.here hx rfl (hb hby d10_25) rfl rfl k) ?_
  show WP p e below _ (T4.setTop (mkF m 26 #[.val (.ref a1), .val (.ref a2), .val (.ref a2)] [(.ref a1)]))
  obtain ⟨T6, X6, e6, st6⟩ := getF X4 hx hZ hown (host := "") (Or.inl (hw _ (List.mem_of_getElem? (i := 25) rfl))) Via.refl e4 Pf2 (g := (mkF m 26 #[.val (.ref a1), .val (.ref a2), .val (.ref a2)] [(.ref a1)])) rfl rfl (hb hby d10_26)
  refine own_go st6 ?_
  show WP p e below _ (T6.setTop (mkF m 29 #[.val (.ref a1), .val (.ref a2), .val (.ref a2)] [(.int (0 : Int32))]))
  refine own_go (fun t_ k => XS.aloadN X6.here hx rfl (hb hby d10_29) rfl rfl k) ?_
  show WP p e below _ (T6.setTop (mkF m 30 #[.val (.ref a1), .val (.ref a2), .val (.ref a2)] [(.ref a2), (.int (0 : Int32))]))
  obtain ⟨T7, X7, e7, st7⟩ := getF X6 hx hZ hown (host := "") (Or.inl (hw _ (List.mem_of_getElem? (i := 25) rfl))) Via.refl e6 Pf3 (g := (mkF m 30 #[.val (.ref a1), .val (.ref a2), .val (.ref a2)] [(.ref a2), (.int (0 : Int32))])) rfl rfl (hb hby d10_30)
  refine own_go st7 ?_
  show WP p e below _ (T7.setTop (mkF m 33 #[.val (.ref a1), .val (.ref a2), .val (.ref a2)] [(.int (0 : Int32)), (.int (0 : Int32))]))
  have hc33_8 : ((0 : Int32) = (0 : Int32)) := by decide
  refine own_go (fun t_ k => XS.icmpNo X7.here hx rfl (hb hby d10_33) rfl (teq hc33_8).2 k) ?_
  show WP p e below _ (T7.setTop (mkF m 36 #[.val (.ref a1), .val (.ref a2), .val (.ref a2)] []))
  refine own_go (fun t_ k => XS.aloadN X7.here hx rfl (hb hby d10_36) rfl rfl k) ?_
  show WP p e below _ (T7.setTop (mkF m 37 #[.val (.ref a1), .val (.ref a2), .val (.ref a2)] [(.ref a1)]))
  obtain ⟨T9, X9, e9, st9⟩ := getF X7 hx hZ hown (host := "") (Or.inl (hw _ (List.mem_of_getElem? (i := 24) rfl))) Via.refl e7 Pf4 (g := (mkF m 37 #[.val (.ref a1), .val (.ref a2), .val (.ref a2)] [(.ref a1)])) rfl rfl (hb hby d10_37)
  refine own_go st9 ?_
  show WP p e below _ (T9.setTop (mkF m 40 #[.val (.ref a1), .val (.ref a2), .val (.ref a2)] [(.ref b1)]))
  refine own_go (fun t_ k => XS.aloadN X9.here hx rfl (hb hby d10_40) rfl rfl k) ?_
  show WP p e below _ (T9.setTop (mkF m 41 #[.val (.ref a1), .val (.ref a2), .val (.ref a2)] [(.ref a2), (.ref b1)]))
  obtain ⟨T10, X10, e10, st10⟩ := getF X9 hx hZ hown (host := "") (Or.inl (hw _ (List.mem_of_getElem? (i := 24) rfl))) Via.refl e9 Pf5 (g := (mkF m 41 #[.val (.ref a1), .val (.ref a2), .val (.ref a2)] [(.ref a2), (.ref b1)])) rfl rfl (hb hby d10_41)
  refine own_go st10 ?_
  show WP p e below _ (T10.setTop (mkF m 44 #[.val (.ref a1), .val (.ref a2), .val (.ref a2)] [(.ref b2), (.ref b1)]))
  obtain ⟨_, T11, Lc11, X11, hQ11, st11⟩ := own_un X10 0 0 (Jvm.LawKit.callS X10 hx (y := (⟨"java/lang/StringLatin1", "equals", "([B[B)Z"⟩ : MethodName)) hown (mvT hZ (hw _ (List.mem_of_getElem? (i := 73) rfl))) (mvT hZ (hw _ (List.mem_of_getElem? (i := 74) rfl))) (mvT hZ (hw _ (List.mem_of_getElem? (i := 75) rfl))) (mvT hZ (hw _ (List.mem_of_getElem? (i := 76) rfl))) (by decide) (backOf (W := 0) (rmLe_1_0 l Z a0 hw [] b1 b2 k1 k2 u0 h0 n0 Pf6 Pf7 ) hZ (hw _ (List.mem_of_getElem? (i := 76) rfl)) (hw _ (List.mem_of_getElem? (i := 75) rfl)) (by decide) (by decide)) (g := (mkF m 44 #[.val (.ref a1), .val (.ref a2), .val (.ref a2)] [(.ref b2), (.ref b1)])) rfl (by rw [hml]; rfl) (argsL := [(.ref b1), (.ref b2)]) (rest := []) (lenOf pd_6 rfl) rfl (by show 2 * 0 + _ ≤ _; exact Nat.le_of_eq rfl) (hb hby d10_44) (fun _ _ => ⟨rfl, e10, (by decide : 0 + 0 ≤ _), (by decide : 0 + 0 ≤ _)⟩))
  dsimp only [Pt.U] at st11
  have er11 : T11.heap = T11.heap := rfl
  obtain ⟨rfl, N11q, e11⟩ := hQ11
  have N11 := Fr.app N0 N11q
  replace X11 : Stand p l e ({ frames := 1, cells := 0, slots := 0, locals := 14 } : Room) s m _ below meth c T11 _ 0 0 := X11
  refine own_go st11 ?_
  show WP p e below _ (T11.setTop (mkF m 47 #[.val (.ref a1), .val (.ref a2), .val (.ref a2)] [(.int (f_rmLe_1_0 u0))]))
  by_cases hc47_12 : (f_rmLe_1_0 u0) = (0 : Int32)
  · refine own_go (fun t_ k => XS.ifYes X11.here hx rfl (pc0 := 47) (pc' := 54) rfl (hb hby d10_47) rfl ((if0 _ _).trans (teq hc47_12).1) (by decide) (by decide) k) ?_
    show WP p e below _ (T11.setTop (mkF m 54 #[.val (.ref a1), .val (.ref a2), .val (.ref a2)] []))
    refine own_go (fun t_ k => XS.iconst X11.here hx rfl (hb hby d10_54) k) ?_
    show WP p e below _ (T11.setTop (mkF m 55 #[.val (.ref a1), .val (.ref a2), .val (.ref a2)] [(.int (0 : Int32))]))
    exact own_retZ X11 hx Bd.notSynchronized Bd.returns (hb hby d10_55) (by decide) (⟨by rw [f_rmSe_1_0, if_pos hc47_12], N11, e11⟩) (by decide) (by decide)
  · refine own_go (fun t_ k => XS.ifNo X11.here hx rfl (hb hby d10_47) rfl ((if0 _ _).trans (feq hc47_12).1) k) ?_
    show WP p e below _ (T11.setTop (mkF m 50 #[.val (.ref a1), .val (.ref a2), .val (.ref a2)] []))
    refine own_go (fun t_ k => XS.iconst X11.here hx rfl (hb hby d10_50) k) ?_
    show WP p e below _ (T11.setTop (mkF m 51 #[.val (.ref a1), .val (.ref a2), .val (.ref a2)] [(.int (1 : Int32))]))
    refine own_go (fun t_ k => XS.goto X11.here hx rfl (pc0 := 51) (pc' := 55) rfl (hb hby d10_51) (by decide) (by decide) k) ?_
    show WP p e below _ (T11.setTop (mkF m 55 #[.val (.ref a1), .val (.ref a2), .val (.ref a2)] [(.int (1 : Int32))]))
    exact own_retZ X11 hx Bd.notSynchronized Bd.returns (hb hby d10_55) (by decide) (⟨by rw [f_rmSe_1_0, if_neg hc47_12], N11, e11⟩) (by decide) (by decide)
def f_rmSe_1_1 (u0 : Int32) (w0 : Int32) (cs : Int32) : Int32 := (if (f_rmLe_1_1 u0 w0) = (0 : Int32) then (0 : Int32) else (1 : Int32))
def Q_rmSe_1_1 (Z : State) (a1 : Addr) (a2 : Addr) (b1 : Addr) (b2 : Addr) (k1 : ClassId) (k2 : ClassId) (u0 : Int32) (w0 : Int32) (cs : Int32) (h0 : Heap) (n0 : Nat) (v : Option Value) (h : Heap) (L : List Loc) : Prop := v = some (.int (f_rmSe_1_1 u0 w0 cs)) ∧ Fr n0 L ∧ h = h0
theorem ef_rmSe_1_1 (m : MethodId) (x0 : Addr) (x1 : Addr) : entryFrame m #[(.ref x0), (.ref x1)] 3 = mkF m 0 #[.val (.ref x0), .val (.ref x1), .unset] [] := by first | (simp [entryFrame, mkF, argsToLocals, Value.category]; done) | rfl
set_option maxRecDepth 65536 in
set_option maxHeartbeats 40000000 in
theorem rmSe_1_1 (l : Launch) (Z : State) (a0 : Array Value) (hw : ∀ d ∈ tables_1, d.before a0 Z = true) (ws : List Jvm.Cond) (a1 : Addr) (a2 : Addr) (b1 : Addr) (b2 : Addr) (k1 : ClassId) (k2 : ClassId) (u0 : Int32) (w0 : Int32) (cs : Int32) (h0 : Heap) (n0 : Nat) (Pf0 : Exa Z h0 a2 "java/lang/String") (Pf1 : Sta Z h0 "java/lang/String" "COMPACT_STRINGS" "Z" (.int cs)) (Pf2 : Fld Z h0 a1 "java/lang/String" "coder" "B" (.int (0 : Int32))) (Pf3 : Fld Z h0 a2 "java/lang/String" "coder" "B" (.int (0 : Int32))) (Pf4 : Fld Z h0 a1 "java/lang/String" "value" "[B" (.ref b1)) (Pf5 : Fld Z h0 a2 "java/lang/String" "value" "[B" (.ref b2)) (Pf6 : Arv Z h0 b1 k1 .byte (1 : Int32) [(.int u0)] (.int (0 : Int32))) (Pf7 : Arv Z h0 b2 k2 .byte (1 : Int32) [(.int w0)] (.int (0 : Int32))) (hne : a1 ≠ a2) (hcs : ¬ cs = (0 : Int32)) :
    MetFree l (⟨"java/lang/String", "equals", "(Ljava/lang/Object;)Z"⟩ : MethodName) (head1 (Jvm.Cond.code (⟨"java/lang/String", "equals", "(Ljava/lang/Object;)Z"⟩ : MethodName) jdk_42_method_66_code 3 (some .boolean) :: ws) ({ frames := 1, cells := 0, slots := 0, locals := 14 } : Room)) (fun a U => a = #[(.ref a1), (.ref a2)] ∧ Z.Warmed39 U.vm ∧ U.heap = h0) (fun _ _ _ _ _ => True) (fun _ U o U' => ∃ v L, o = .returned v ∧ (Q_rmSe_1_1 Z a1 a2 b1 b2 k1 k2 u0 w0 cs h0 n0) v U'.heap L ∧ FrameEnd U o U' L ({ frames := 1, cells := 0, slots := 0, locals := 14 } : Room).cells ({ frames := 1, cells := 0, slots := 0, locals := 14 } : Room).slots) := by
  refine MetFree.of_bodySF (plainFor_of_name pn_1) hisR ?_
  intro p e s m args below meth c s₁ Bd hml0 hP hK
  obtain ⟨rfl, hZ, hh⟩ := hP
  have hx := Bd.exec
  have hby := Bd.bytes
  have hml : c.maxLocals = 3 := hml0
  have hown : s.vm.findClass "java/lang/String" = some m.cls := findClass_of_methodNamed Bd.named
  have hnm := (name_of_methodNamed Bd.named Bd.method).1
  have X0 : Stand p l e ({ frames := 1, cells := 0, slots := 0, locals := 14 } : Room) s m #[(.ref a1), (.ref a2)] below meth c s₁ [] 0 0 := Stand.of_body Bd
  have e0 : s₁.heap = h0 := by rw [← hh, Bd.state]; rfl
  have N0 := Fr.nil n0
  show WP p e below (GG (Q_rmSe_1_1 Z a1 a2 b1 b2 k1 k2 u0 w0 cs h0 n0) s ({ frames := 1, cells := 0, slots := 0, locals := 14 } : Room).cells ({ frames := 1, cells := 0, slots := 0, locals := 14 } : Room).slots) (s₁.setTop (entryFrame m #[(.ref a1), (.ref a2)] 3))
  rw [ef_rmSe_1_1 m a1 a2]
  show WP p e below _ (s₁.setTop (mkF m 0 #[.val (.ref a1), .val (.ref a2), .unset] []))
  refine own_go (fun t_ k => XS.aloadN X0.here hx rfl (hb hby d10_0) rfl rfl k) ?_
  show WP p e below _ (s₁.setTop (mkF m 1 #[.val (.ref a1), .val (.ref a2), .unset] [(.ref a1)]))
  refine own_go (fun t_ k => XS.aloadN X0.here hx rfl (hb hby d10_1) rfl rfl k) ?_
  show WP p e below _ (s₁.setTop (mkF m 2 #[.val (.ref a1), .val (.ref a2), .unset] [(.ref a2), (.ref a1)]))
  refine own_go (fun t_ k => Jvm.RoadKit.acmp (g := (mkF m 2 #[.val (.ref a1), .val (.ref a2), .unset] [(.ref a2), (.ref a1)])) X0 hx rfl rfl rfl (pc0 := 2) (pc' := 7) (same := false) rfl (hb hby d10_2) rfl (decide_eq_false fun q => (hne) (Value.ref.inj q)) (by decide) (by decide) k) ?_
  show WP p e below _ (s₁.setTop (mkF m 7 #[.val (.ref a1), .val (.ref a2), .unset] []))
  refine own_go (fun t_ k => XS.aloadN X0.here hx rfl (hb hby d10_7) rfl rfl k) ?_
  show WP p e below _ (s₁.setTop (mkF m 8 #[.val (.ref a1), .val (.ref a2), .unset] [(.ref a2)]))
  obtain ⟨T1, X1, e1, st1⟩ := instY X0 hx hZ hown (hw _ (List.mem_of_getElem? (i := 71) rfl)) e0 (Ins.of_exa Pf0 (hw _ (List.mem_of_getElem? (i := 13) rfl))) (g := (mkF m 8 #[.val (.ref a1), .val (.ref a2), .unset] [(.ref a2)])) rfl rfl (hb hby d10_8)
  refine own_go st1 ?_
  show WP p e below _ (T1.setTop (mkF m 11 #[.val (.ref a1), .val (.ref a2), .unset] [(.int (1 : Int32))]))
  have hc11_2 : ¬ ((1 : Int32) = (0 : Int32)) := by decide
  refine own_go (fun t_ k => XS.ifNo X1.here hx rfl (hb hby d10_11) rfl ((if0 _ _).trans (feq hc11_2).1) k) ?_
  show WP p e below _ (T1.setTop (mkF m 14 #[.val (.ref a1), .val (.ref a2), .unset] []))
  refine own_go (fun t_ k => XS.aloadN X1.here hx rfl (hb hby d10_14) rfl rfl k) ?_
  show WP p e below _ (T1.setTop (mkF m 15 #[.val (.ref a1), .val (.ref a2), .unset] [(.ref a2)]))
  obtain ⟨T3, X3, e3, st3⟩ := castY X1 hx hZ hown (hw _ (List.mem_of_getElem? (i := 71) rfl)) e1 (Ins.of_exa Pf0 (hw _ (List.mem_of_getElem? (i := 13) rfl))) (g := (mkF m 15 #[.val (.ref a1), .val (.ref a2), .unset] [(.ref a2)])) rfl rfl (hb hby d10_15)
  refine own_go st3 ?_
  show WP p e below _ (T3.setTop (mkF m 18 #[.val (.ref a1), .val (.ref a2), .unset] [(.ref a2)]))
  refine own_go (fun t_ k => XS.astoreN X3.here hx rfl (hb hby d10_18) rfl rfl (l' := #[.val (.ref a1), .val (.ref a2), .val (.ref a2)]) rfl k) ?_
  show WP p e below _ (T3.setTop (mkF m 19 #[.val (.ref a1), .val (.ref a2), .val (.ref a2)] []))
  obtain ⟨T4, X4, e4, st4⟩ := getS2 X3 hx hZ hown (host := "") (Or.inl (hw _ (List.mem_of_getElem? (i := 72) rfl))) Via.refl e3 Pf1 (g := (mkF m 19 #[.val (.ref a1), .val (.ref a2), .val (.ref a2)] [])) rfl (hb hby d10_19)
  refine own_go st4 ?_
  show WP p e below _ (T4.setTop (mkF m 22 #[.val (.ref a1), .val (.ref a2), .val (.ref a2)] [(.int cs)]))
  have hc22_5 : ¬ (cs = (0 : Int32)) := hcs
  refine own_go (fun t_ k => XS.ifNo X4.here hx rfl (hb hby d10_22) rfl ((if0 _ _).trans (feq hc22_5).1) k) ?_
  show WP p e below _ (T4.setTop (mkF m 25 #[.val (.ref a1), .val (.ref a2), .val (.ref a2)] []))
  refine own_go (fun t_ k => XS.aloadN X4.here hx rfl (hb hby d10_25) rfl rfl k) ?_
  show WP p e below _ (T4.setTop (mkF m 26 #[.val (.ref a1), .val (.ref a2), .val (.ref a2)] [(.ref a1)]))
  obtain ⟨T6, X6, e6, st6⟩ := getF X4 hx hZ hown (host := "") (Or.inl (hw _ (List.mem_of_getElem? (i := 25) rfl))) Via.refl e4 Pf2 (g := (mkF m 26 #[.val (.ref a1), .val (.ref a2), .val (.ref a2)] [(.ref a1)])) rfl rfl (hb hby d10_26)
  refine own_go st6 ?_
  show WP p e below _ (T6.setTop (mkF m 29 #[.val (.ref a1), .val (.ref a2), .val (.ref a2)] [(.int (0 : Int32))]))
  refine own_go (fun t_ k => XS.aloadN X6.here hx rfl (hb hby d10_29) rfl rfl k) ?_
  show WP p e below _ (T6.setTop (mkF m 30 #[.val (.ref a1), .val (.ref a2), .val (.ref a2)] [(.ref a2), (.int (0 : Int32))]))
  obtain ⟨T7, X7, e7, st7⟩ := getF X6 hx hZ hown (host := "") (Or.inl (hw _ (List.mem_of_getElem? (i := 25) rfl))) Via.refl e6 Pf3 (g := (mkF m 30 #[.val (.ref a1), .val (.ref a2), .val (.ref a2)] [(.ref a2), (.int (0 : Int32))])) rfl rfl (hb hby d10_30)
  refine own_go st7 ?_
  show WP p e below _ (T7.setTop (mkF m 33 #[.val (.ref a1), .val (.ref a2), .val (.ref a2)] [(.int (0 : Int32)), (.int (0 : Int32))]))
  have hc33_8 : ((0 : Int32) = (0 : Int32)) := by decide
  refine own_go (fun t_ k => XS.icmpNo X7.here hx rfl (hb hby d10_33) rfl (teq hc33_8).2 k) ?_
  show WP p e below _ (T7.setTop (mkF m 36 #[.val (.ref a1), .val (.ref a2), .val (.ref a2)] []))
  refine own_go (fun t_ k => XS.aloadN X7.here hx rfl (hb hby d10_36) rfl rfl k) ?_
  show WP p e below _ (T7.setTop (mkF m 37 #[.val (.ref a1), .val (.ref a2), .val (.ref a2)] [(.ref a1)]))
  obtain ⟨T9, X9, e9, st9⟩ := getF X7 hx hZ hown (host := "") (Or.inl (hw _ (List.mem_of_getElem? (i := 24) rfl))) Via.refl e7 Pf4 (g := (mkF m 37 #[.val (.ref a1), .val (.ref a2), .val (.ref a2)] [(.ref a1)])) rfl rfl (hb hby d10_37)
  refine own_go st9 ?_
  show WP p e below _ (T9.setTop (mkF m 40 #[.val (.ref a1), .val (.ref a2), .val (.ref a2)] [(.ref b1)]))
  refine own_go (fun t_ k => XS.aloadN X9.here hx rfl (hb hby d10_40) rfl rfl k) ?_
  show WP p e below _ (T9.setTop (mkF m 41 #[.val (.ref a1), .val (.ref a2), .val (.ref a2)] [(.ref a2), (.ref b1)]))
  obtain ⟨T10, X10, e10, st10⟩ := getF X9 hx hZ hown (host := "") (Or.inl (hw _ (List.mem_of_getElem? (i := 24) rfl))) Via.refl e9 Pf5 (g := (mkF m 41 #[.val (.ref a1), .val (.ref a2), .val (.ref a2)] [(.ref a2), (.ref b1)])) rfl rfl (hb hby d10_41)
  refine own_go st10 ?_
  show WP p e below _ (T10.setTop (mkF m 44 #[.val (.ref a1), .val (.ref a2), .val (.ref a2)] [(.ref b2), (.ref b1)]))
  obtain ⟨_, T11, Lc11, X11, hQ11, st11⟩ := own_un X10 0 0 (Jvm.LawKit.callS X10 hx (y := (⟨"java/lang/StringLatin1", "equals", "([B[B)Z"⟩ : MethodName)) hown (mvT hZ (hw _ (List.mem_of_getElem? (i := 73) rfl))) (mvT hZ (hw _ (List.mem_of_getElem? (i := 74) rfl))) (mvT hZ (hw _ (List.mem_of_getElem? (i := 75) rfl))) (mvT hZ (hw _ (List.mem_of_getElem? (i := 76) rfl))) (by decide) (backOf (W := 0) (rmLe_1_1 l Z a0 hw [] b1 b2 k1 k2 u0 w0 h0 n0 Pf6 Pf7 ) hZ (hw _ (List.mem_of_getElem? (i := 76) rfl)) (hw _ (List.mem_of_getElem? (i := 75) rfl)) (by decide) (by decide)) (g := (mkF m 44 #[.val (.ref a1), .val (.ref a2), .val (.ref a2)] [(.ref b2), (.ref b1)])) rfl (by rw [hml]; rfl) (argsL := [(.ref b1), (.ref b2)]) (rest := []) (lenOf pd_6 rfl) rfl (by show 2 * 0 + _ ≤ _; exact Nat.le_of_eq rfl) (hb hby d10_44) (fun _ _ => ⟨rfl, e10, (by decide : 0 + 0 ≤ _), (by decide : 0 + 0 ≤ _)⟩))
  dsimp only [Pt.U] at st11
  have er11 : T11.heap = T11.heap := rfl
  obtain ⟨rfl, N11q, e11⟩ := hQ11
  have N11 := Fr.app N0 N11q
  replace X11 : Stand p l e ({ frames := 1, cells := 0, slots := 0, locals := 14 } : Room) s m _ below meth c T11 _ 0 0 := X11
  refine own_go st11 ?_
  show WP p e below _ (T11.setTop (mkF m 47 #[.val (.ref a1), .val (.ref a2), .val (.ref a2)] [(.int (f_rmLe_1_1 u0 w0))]))
  by_cases hc47_12 : (f_rmLe_1_1 u0 w0) = (0 : Int32)
  · refine own_go (fun t_ k => XS.ifYes X11.here hx rfl (pc0 := 47) (pc' := 54) rfl (hb hby d10_47) rfl ((if0 _ _).trans (teq hc47_12).1) (by decide) (by decide) k) ?_
    show WP p e below _ (T11.setTop (mkF m 54 #[.val (.ref a1), .val (.ref a2), .val (.ref a2)] []))
    refine own_go (fun t_ k => XS.iconst X11.here hx rfl (hb hby d10_54) k) ?_
    show WP p e below _ (T11.setTop (mkF m 55 #[.val (.ref a1), .val (.ref a2), .val (.ref a2)] [(.int (0 : Int32))]))
    exact own_retZ X11 hx Bd.notSynchronized Bd.returns (hb hby d10_55) (by decide) (⟨by rw [f_rmSe_1_1, if_pos hc47_12], N11, e11⟩) (by decide) (by decide)
  · refine own_go (fun t_ k => XS.ifNo X11.here hx rfl (hb hby d10_47) rfl ((if0 _ _).trans (feq hc47_12).1) k) ?_
    show WP p e below _ (T11.setTop (mkF m 50 #[.val (.ref a1), .val (.ref a2), .val (.ref a2)] []))
    refine own_go (fun t_ k => XS.iconst X11.here hx rfl (hb hby d10_50) k) ?_
    show WP p e below _ (T11.setTop (mkF m 51 #[.val (.ref a1), .val (.ref a2), .val (.ref a2)] [(.int (1 : Int32))]))
    refine own_go (fun t_ k => XS.goto X11.here hx rfl (pc0 := 51) (pc' := 55) rfl (hb hby d10_51) (by decide) (by decide) k) ?_
    show WP p e below _ (T11.setTop (mkF m 55 #[.val (.ref a1), .val (.ref a2), .val (.ref a2)] [(.int (1 : Int32))]))
    exact own_retZ X11 hx Bd.notSynchronized Bd.returns (hb hby d10_55) (by decide) (⟨by rw [f_rmSe_1_1, if_neg hc47_12], N11, e11⟩) (by decide) (by decide)
def f_rmSe_1_2 (u0 : Int32) (w0 : Int32) (w1 : Int32) (cs : Int32) : Int32 := (if (f_rmLe_1_2 u0 w0 w1) = (0 : Int32) then (0 : Int32) else (1 : Int32))
def Q_rmSe_1_2 (Z : State) (a1 : Addr) (a2 : Addr) (b1 : Addr) (b2 : Addr) (k1 : ClassId) (k2 : ClassId) (u0 : Int32) (w0 : Int32) (w1 : Int32) (cs : Int32) (h0 : Heap) (n0 : Nat) (v : Option Value) (h : Heap) (L : List Loc) : Prop := v = some (.int (f_rmSe_1_2 u0 w0 w1 cs)) ∧ Fr n0 L ∧ h = h0
theorem ef_rmSe_1_2 (m : MethodId) (x0 : Addr) (x1 : Addr) : entryFrame m #[(.ref x0), (.ref x1)] 3 = mkF m 0 #[.val (.ref x0), .val (.ref x1), .unset] [] := by first | (simp [entryFrame, mkF, argsToLocals, Value.category]; done) | rfl
set_option maxRecDepth 65536 in
set_option maxHeartbeats 40000000 in
theorem rmSe_1_2 (l : Launch) (Z : State) (a0 : Array Value) (hw : ∀ d ∈ tables_1, d.before a0 Z = true) (ws : List Jvm.Cond) (a1 : Addr) (a2 : Addr) (b1 : Addr) (b2 : Addr) (k1 : ClassId) (k2 : ClassId) (u0 : Int32) (w0 : Int32) (w1 : Int32) (cs : Int32) (h0 : Heap) (n0 : Nat) (Pf0 : Exa Z h0 a2 "java/lang/String") (Pf1 : Sta Z h0 "java/lang/String" "COMPACT_STRINGS" "Z" (.int cs)) (Pf2 : Fld Z h0 a1 "java/lang/String" "coder" "B" (.int (0 : Int32))) (Pf3 : Fld Z h0 a2 "java/lang/String" "coder" "B" (.int (0 : Int32))) (Pf4 : Fld Z h0 a1 "java/lang/String" "value" "[B" (.ref b1)) (Pf5 : Fld Z h0 a2 "java/lang/String" "value" "[B" (.ref b2)) (Pf6 : Arv Z h0 b1 k1 .byte (1 : Int32) [(.int u0)] (.int (0 : Int32))) (Pf7 : Arv Z h0 b2 k2 .byte (2 : Int32) [(.int w0), (.int w1)] (.int (0 : Int32))) (hne : a1 ≠ a2) (hcs : ¬ cs = (0 : Int32)) :
    MetFree l (⟨"java/lang/String", "equals", "(Ljava/lang/Object;)Z"⟩ : MethodName) (head1 (Jvm.Cond.code (⟨"java/lang/String", "equals", "(Ljava/lang/Object;)Z"⟩ : MethodName) jdk_42_method_66_code 3 (some .boolean) :: ws) ({ frames := 1, cells := 0, slots := 0, locals := 14 } : Room)) (fun a U => a = #[(.ref a1), (.ref a2)] ∧ Z.Warmed39 U.vm ∧ U.heap = h0) (fun _ _ _ _ _ => True) (fun _ U o U' => ∃ v L, o = .returned v ∧ (Q_rmSe_1_2 Z a1 a2 b1 b2 k1 k2 u0 w0 w1 cs h0 n0) v U'.heap L ∧ FrameEnd U o U' L ({ frames := 1, cells := 0, slots := 0, locals := 14 } : Room).cells ({ frames := 1, cells := 0, slots := 0, locals := 14 } : Room).slots) := by
  refine MetFree.of_bodySF (plainFor_of_name pn_1) hisR ?_
  intro p e s m args below meth c s₁ Bd hml0 hP hK
  obtain ⟨rfl, hZ, hh⟩ := hP
  have hx := Bd.exec
  have hby := Bd.bytes
  have hml : c.maxLocals = 3 := hml0
  have hown : s.vm.findClass "java/lang/String" = some m.cls := findClass_of_methodNamed Bd.named
  have hnm := (name_of_methodNamed Bd.named Bd.method).1
  have X0 : Stand p l e ({ frames := 1, cells := 0, slots := 0, locals := 14 } : Room) s m #[(.ref a1), (.ref a2)] below meth c s₁ [] 0 0 := Stand.of_body Bd
  have e0 : s₁.heap = h0 := by rw [← hh, Bd.state]; rfl
  have N0 := Fr.nil n0
  show WP p e below (GG (Q_rmSe_1_2 Z a1 a2 b1 b2 k1 k2 u0 w0 w1 cs h0 n0) s ({ frames := 1, cells := 0, slots := 0, locals := 14 } : Room).cells ({ frames := 1, cells := 0, slots := 0, locals := 14 } : Room).slots) (s₁.setTop (entryFrame m #[(.ref a1), (.ref a2)] 3))
  rw [ef_rmSe_1_2 m a1 a2]
  show WP p e below _ (s₁.setTop (mkF m 0 #[.val (.ref a1), .val (.ref a2), .unset] []))
  refine own_go (fun t_ k => XS.aloadN X0.here hx rfl (hb hby d10_0) rfl rfl k) ?_
  show WP p e below _ (s₁.setTop (mkF m 1 #[.val (.ref a1), .val (.ref a2), .unset] [(.ref a1)]))
  refine own_go (fun t_ k => XS.aloadN X0.here hx rfl (hb hby d10_1) rfl rfl k) ?_
  show WP p e below _ (s₁.setTop (mkF m 2 #[.val (.ref a1), .val (.ref a2), .unset] [(.ref a2), (.ref a1)]))
  refine own_go (fun t_ k => Jvm.RoadKit.acmp (g := (mkF m 2 #[.val (.ref a1), .val (.ref a2), .unset] [(.ref a2), (.ref a1)])) X0 hx rfl rfl rfl (pc0 := 2) (pc' := 7) (same := false) rfl (hb hby d10_2) rfl (decide_eq_false fun q => (hne) (Value.ref.inj q)) (by decide) (by decide) k) ?_
  show WP p e below _ (s₁.setTop (mkF m 7 #[.val (.ref a1), .val (.ref a2), .unset] []))
  refine own_go (fun t_ k => XS.aloadN X0.here hx rfl (hb hby d10_7) rfl rfl k) ?_
  show WP p e below _ (s₁.setTop (mkF m 8 #[.val (.ref a1), .val (.ref a2), .unset] [(.ref a2)]))
  obtain ⟨T1, X1, e1, st1⟩ := instY X0 hx hZ hown (hw _ (List.mem_of_getElem? (i := 71) rfl)) e0 (Ins.of_exa Pf0 (hw _ (List.mem_of_getElem? (i := 13) rfl))) (g := (mkF m 8 #[.val (.ref a1), .val (.ref a2), .unset] [(.ref a2)])) rfl rfl (hb hby d10_8)
  refine own_go st1 ?_
  show WP p e below _ (T1.setTop (mkF m 11 #[.val (.ref a1), .val (.ref a2), .unset] [(.int (1 : Int32))]))
  have hc11_2 : ¬ ((1 : Int32) = (0 : Int32)) := by decide
  refine own_go (fun t_ k => XS.ifNo X1.here hx rfl (hb hby d10_11) rfl ((if0 _ _).trans (feq hc11_2).1) k) ?_
  show WP p e below _ (T1.setTop (mkF m 14 #[.val (.ref a1), .val (.ref a2), .unset] []))
  refine own_go (fun t_ k => XS.aloadN X1.here hx rfl (hb hby d10_14) rfl rfl k) ?_
  show WP p e below _ (T1.setTop (mkF m 15 #[.val (.ref a1), .val (.ref a2), .unset] [(.ref a2)]))
  obtain ⟨T3, X3, e3, st3⟩ := castY X1 hx hZ hown (hw _ (List.mem_of_getElem? (i := 71) rfl)) e1 (Ins.of_exa Pf0 (hw _ (List.mem_of_getElem? (i := 13) rfl))) (g := (mkF m 15 #[.val (.ref a1), .val (.ref a2), .unset] [(.ref a2)])) rfl rfl (hb hby d10_15)
  refine own_go st3 ?_
  show WP p e below _ (T3.setTop (mkF m 18 #[.val (.ref a1), .val (.ref a2), .unset] [(.ref a2)]))
  refine own_go (fun t_ k => XS.astoreN X3.here hx rfl (hb hby d10_18) rfl rfl (l' := #[.val (.ref a1), .val (.ref a2), .val (.ref a2)]) rfl k) ?_
  show WP p e below _ (T3.setTop (mkF m 19 #[.val (.ref a1), .val (.ref a2), .val (.ref a2)] []))
  obtain ⟨T4, X4, e4, st4⟩ := getS2 X3 hx hZ hown (host := "") (Or.inl (hw _ (List.mem_of_getElem? (i := 72) rfl))) Via.refl e3 Pf1 (g := (mkF m 19 #[.val (.ref a1), .val (.ref a2), .val (.ref a2)] [])) rfl (hb hby d10_19)
  refine own_go st4 ?_
  show WP p e below _ (T4.setTop (mkF m 22 #[.val (.ref a1), .val (.ref a2), .val (.ref a2)] [(.int cs)]))
  have hc22_5 : ¬ (cs = (0 : Int32)) := hcs
  refine own_go (fun t_ k => XS.ifNo X4.here hx rfl (hb hby d10_22) rfl ((if0 _ _).trans (feq hc22_5).1) k) ?_
  show WP p e below _ (T4.setTop (mkF m 25 #[.val (.ref a1), .val (.ref a2), .val (.ref a2)] []))
  refine own_go (fun t_ k => XS.aloadN X4.here hx rfl (hb hby d10_25) rfl rfl k) ?_
  show WP p e below _ (T4.setTop (mkF m 26 #[.val (.ref a1), .val (.ref a2), .val (.ref a2)] [(.ref a1)]))
  obtain ⟨T6, X6, e6, st6⟩ := getF X4 hx hZ hown (host := "") (Or.inl (hw _ (List.mem_of_getElem? (i := 25) rfl))) Via.refl e4 Pf2 (g := (mkF m 26 #[.val (.ref a1), .val (.ref a2), .val (.ref a2)] [(.ref a1)])) rfl rfl (hb hby d10_26)
  refine own_go st6 ?_
  show WP p e below _ (T6.setTop (mkF m 29 #[.val (.ref a1), .val (.ref a2), .val (.ref a2)] [(.int (0 : Int32))]))
  refine own_go (fun t_ k => XS.aloadN X6.here hx rfl (hb hby d10_29) rfl rfl k) ?_
  show WP p e below _ (T6.setTop (mkF m 30 #[.val (.ref a1), .val (.ref a2), .val (.ref a2)] [(.ref a2), (.int (0 : Int32))]))
  obtain ⟨T7, X7, e7, st7⟩ := getF X6 hx hZ hown (host := "") (Or.inl (hw _ (List.mem_of_getElem? (i := 25) rfl))) Via.refl e6 Pf3 (g := (mkF m 30 #[.val (.ref a1), .val (.ref a2), .val (.ref a2)] [(.ref a2), (.int (0 : Int32))])) rfl rfl (hb hby d10_30)
  refine own_go st7 ?_
  show WP p e below _ (T7.setTop (mkF m 33 #[.val (.ref a1), .val (.ref a2), .val (.ref a2)] [(.int (0 : Int32)), (.int (0 : Int32))]))
  have hc33_8 : ((0 : Int32) = (0 : Int32)) := by decide
  refine own_go (fun t_ k => XS.icmpNo X7.here hx rfl (hb hby d10_33) rfl (teq hc33_8).2 k) ?_
  show WP p e below _ (T7.setTop (mkF m 36 #[.val (.ref a1), .val (.ref a2), .val (.ref a2)] []))
  refine own_go (fun t_ k => XS.aloadN X7.here hx rfl (hb hby d10_36) rfl rfl k) ?_
  show WP p e below _ (T7.setTop (mkF m 37 #[.val (.ref a1), .val (.ref a2), .val (.ref a2)] [(.ref a1)]))
  obtain ⟨T9, X9, e9, st9⟩ := getF X7 hx hZ hown (host := "") (Or.inl (hw _ (List.mem_of_getElem? (i := 24) rfl))) Via.refl e7 Pf4 (g := (mkF m 37 #[.val (.ref a1), .val (.ref a2), .val (.ref a2)] [(.ref a1)])) rfl rfl (hb hby d10_37)
  refine own_go st9 ?_
  show WP p e below _ (T9.setTop (mkF m 40 #[.val (.ref a1), .val (.ref a2), .val (.ref a2)] [(.ref b1)]))
  refine own_go (fun t_ k => XS.aloadN X9.here hx rfl (hb hby d10_40) rfl rfl k) ?_
  show WP p e below _ (T9.setTop (mkF m 41 #[.val (.ref a1), .val (.ref a2), .val (.ref a2)] [(.ref a2), (.ref b1)]))
  obtain ⟨T10, X10, e10, st10⟩ := getF X9 hx hZ hown (host := "") (Or.inl (hw _ (List.mem_of_getElem? (i := 24) rfl))) Via.refl e9 Pf5 (g := (mkF m 41 #[.val (.ref a1), .val (.ref a2), .val (.ref a2)] [(.ref a2), (.ref b1)])) rfl rfl (hb hby d10_41)
  refine own_go st10 ?_
  show WP p e below _ (T10.setTop (mkF m 44 #[.val (.ref a1), .val (.ref a2), .val (.ref a2)] [(.ref b2), (.ref b1)]))
  obtain ⟨_, T11, Lc11, X11, hQ11, st11⟩ := own_un X10 0 0 (Jvm.LawKit.callS X10 hx (y := (⟨"java/lang/StringLatin1", "equals", "([B[B)Z"⟩ : MethodName)) hown (mvT hZ (hw _ (List.mem_of_getElem? (i := 73) rfl))) (mvT hZ (hw _ (List.mem_of_getElem? (i := 74) rfl))) (mvT hZ (hw _ (List.mem_of_getElem? (i := 75) rfl))) (mvT hZ (hw _ (List.mem_of_getElem? (i := 76) rfl))) (by decide) (backOf (W := 0) (rmLe_1_2 l Z a0 hw [] b1 b2 k1 k2 u0 w0 w1 h0 n0 Pf6 Pf7 ) hZ (hw _ (List.mem_of_getElem? (i := 76) rfl)) (hw _ (List.mem_of_getElem? (i := 75) rfl)) (by decide) (by decide)) (g := (mkF m 44 #[.val (.ref a1), .val (.ref a2), .val (.ref a2)] [(.ref b2), (.ref b1)])) rfl (by rw [hml]; rfl) (argsL := [(.ref b1), (.ref b2)]) (rest := []) (lenOf pd_6 rfl) rfl (by show 2 * 0 + _ ≤ _; exact Nat.le_of_eq rfl) (hb hby d10_44) (fun _ _ => ⟨rfl, e10, (by decide : 0 + 0 ≤ _), (by decide : 0 + 0 ≤ _)⟩))
  dsimp only [Pt.U] at st11
  have er11 : T11.heap = T11.heap := rfl
  obtain ⟨rfl, N11q, e11⟩ := hQ11
  have N11 := Fr.app N0 N11q
  replace X11 : Stand p l e ({ frames := 1, cells := 0, slots := 0, locals := 14 } : Room) s m _ below meth c T11 _ 0 0 := X11
  refine own_go st11 ?_
  show WP p e below _ (T11.setTop (mkF m 47 #[.val (.ref a1), .val (.ref a2), .val (.ref a2)] [(.int (f_rmLe_1_2 u0 w0 w1))]))
  by_cases hc47_12 : (f_rmLe_1_2 u0 w0 w1) = (0 : Int32)
  · refine own_go (fun t_ k => XS.ifYes X11.here hx rfl (pc0 := 47) (pc' := 54) rfl (hb hby d10_47) rfl ((if0 _ _).trans (teq hc47_12).1) (by decide) (by decide) k) ?_
    show WP p e below _ (T11.setTop (mkF m 54 #[.val (.ref a1), .val (.ref a2), .val (.ref a2)] []))
    refine own_go (fun t_ k => XS.iconst X11.here hx rfl (hb hby d10_54) k) ?_
    show WP p e below _ (T11.setTop (mkF m 55 #[.val (.ref a1), .val (.ref a2), .val (.ref a2)] [(.int (0 : Int32))]))
    exact own_retZ X11 hx Bd.notSynchronized Bd.returns (hb hby d10_55) (by decide) (⟨by rw [f_rmSe_1_2, if_pos hc47_12], N11, e11⟩) (by decide) (by decide)
  · refine own_go (fun t_ k => XS.ifNo X11.here hx rfl (hb hby d10_47) rfl ((if0 _ _).trans (feq hc47_12).1) k) ?_
    show WP p e below _ (T11.setTop (mkF m 50 #[.val (.ref a1), .val (.ref a2), .val (.ref a2)] []))
    refine own_go (fun t_ k => XS.iconst X11.here hx rfl (hb hby d10_50) k) ?_
    show WP p e below _ (T11.setTop (mkF m 51 #[.val (.ref a1), .val (.ref a2), .val (.ref a2)] [(.int (1 : Int32))]))
    refine own_go (fun t_ k => XS.goto X11.here hx rfl (pc0 := 51) (pc' := 55) rfl (hb hby d10_51) (by decide) (by decide) k) ?_
    show WP p e below _ (T11.setTop (mkF m 55 #[.val (.ref a1), .val (.ref a2), .val (.ref a2)] [(.int (1 : Int32))]))
    exact own_retZ X11 hx Bd.notSynchronized Bd.returns (hb hby d10_55) (by decide) (⟨by rw [f_rmSe_1_2, if_neg hc47_12], N11, e11⟩) (by decide) (by decide)
def f_rmSe_2_0 (u0 : Int32) (u1 : Int32) (cs : Int32) : Int32 := (if (f_rmLe_2_0 u0 u1) = (0 : Int32) then (0 : Int32) else (1 : Int32))
def Q_rmSe_2_0 (Z : State) (a1 : Addr) (a2 : Addr) (b1 : Addr) (b2 : Addr) (k1 : ClassId) (k2 : ClassId) (u0 : Int32) (u1 : Int32) (cs : Int32) (h0 : Heap) (n0 : Nat) (v : Option Value) (h : Heap) (L : List Loc) : Prop := v = some (.int (f_rmSe_2_0 u0 u1 cs)) ∧ Fr n0 L ∧ h = h0
theorem ef_rmSe_2_0 (m : MethodId) (x0 : Addr) (x1 : Addr) : entryFrame m #[(.ref x0), (.ref x1)] 3 = mkF m 0 #[.val (.ref x0), .val (.ref x1), .unset] [] := by first | (simp [entryFrame, mkF, argsToLocals, Value.category]; done) | rfl
set_option maxRecDepth 65536 in
set_option maxHeartbeats 40000000 in
theorem rmSe_2_0 (l : Launch) (Z : State) (a0 : Array Value) (hw : ∀ d ∈ tables_1, d.before a0 Z = true) (ws : List Jvm.Cond) (a1 : Addr) (a2 : Addr) (b1 : Addr) (b2 : Addr) (k1 : ClassId) (k2 : ClassId) (u0 : Int32) (u1 : Int32) (cs : Int32) (h0 : Heap) (n0 : Nat) (Pf0 : Exa Z h0 a2 "java/lang/String") (Pf1 : Sta Z h0 "java/lang/String" "COMPACT_STRINGS" "Z" (.int cs)) (Pf2 : Fld Z h0 a1 "java/lang/String" "coder" "B" (.int (0 : Int32))) (Pf3 : Fld Z h0 a2 "java/lang/String" "coder" "B" (.int (0 : Int32))) (Pf4 : Fld Z h0 a1 "java/lang/String" "value" "[B" (.ref b1)) (Pf5 : Fld Z h0 a2 "java/lang/String" "value" "[B" (.ref b2)) (Pf6 : Arv Z h0 b1 k1 .byte (2 : Int32) [(.int u0), (.int u1)] (.int (0 : Int32))) (Pf7 : Arv Z h0 b2 k2 .byte (0 : Int32) [] (.int (0 : Int32))) (hne : a1 ≠ a2) (hcs : ¬ cs = (0 : Int32)) :
    MetFree l (⟨"java/lang/String", "equals", "(Ljava/lang/Object;)Z"⟩ : MethodName) (head1 (Jvm.Cond.code (⟨"java/lang/String", "equals", "(Ljava/lang/Object;)Z"⟩ : MethodName) jdk_42_method_66_code 3 (some .boolean) :: ws) ({ frames := 1, cells := 0, slots := 0, locals := 14 } : Room)) (fun a U => a = #[(.ref a1), (.ref a2)] ∧ Z.Warmed39 U.vm ∧ U.heap = h0) (fun _ _ _ _ _ => True) (fun _ U o U' => ∃ v L, o = .returned v ∧ (Q_rmSe_2_0 Z a1 a2 b1 b2 k1 k2 u0 u1 cs h0 n0) v U'.heap L ∧ FrameEnd U o U' L ({ frames := 1, cells := 0, slots := 0, locals := 14 } : Room).cells ({ frames := 1, cells := 0, slots := 0, locals := 14 } : Room).slots) := by
  refine MetFree.of_bodySF (plainFor_of_name pn_1) hisR ?_
  intro p e s m args below meth c s₁ Bd hml0 hP hK
  obtain ⟨rfl, hZ, hh⟩ := hP
  have hx := Bd.exec
  have hby := Bd.bytes
  have hml : c.maxLocals = 3 := hml0
  have hown : s.vm.findClass "java/lang/String" = some m.cls := findClass_of_methodNamed Bd.named
  have hnm := (name_of_methodNamed Bd.named Bd.method).1
  have X0 : Stand p l e ({ frames := 1, cells := 0, slots := 0, locals := 14 } : Room) s m #[(.ref a1), (.ref a2)] below meth c s₁ [] 0 0 := Stand.of_body Bd
  have e0 : s₁.heap = h0 := by rw [← hh, Bd.state]; rfl
  have N0 := Fr.nil n0
  show WP p e below (GG (Q_rmSe_2_0 Z a1 a2 b1 b2 k1 k2 u0 u1 cs h0 n0) s ({ frames := 1, cells := 0, slots := 0, locals := 14 } : Room).cells ({ frames := 1, cells := 0, slots := 0, locals := 14 } : Room).slots) (s₁.setTop (entryFrame m #[(.ref a1), (.ref a2)] 3))
  rw [ef_rmSe_2_0 m a1 a2]
  show WP p e below _ (s₁.setTop (mkF m 0 #[.val (.ref a1), .val (.ref a2), .unset] []))
  refine own_go (fun t_ k => XS.aloadN X0.here hx rfl (hb hby d10_0) rfl rfl k) ?_
  show WP p e below _ (s₁.setTop (mkF m 1 #[.val (.ref a1), .val (.ref a2), .unset] [(.ref a1)]))
  refine own_go (fun t_ k => XS.aloadN X0.here hx rfl (hb hby d10_1) rfl rfl k) ?_
  show WP p e below _ (s₁.setTop (mkF m 2 #[.val (.ref a1), .val (.ref a2), .unset] [(.ref a2), (.ref a1)]))
  refine own_go (fun t_ k => Jvm.RoadKit.acmp (g := (mkF m 2 #[.val (.ref a1), .val (.ref a2), .unset] [(.ref a2), (.ref a1)])) X0 hx rfl rfl rfl (pc0 := 2) (pc' := 7) (same := false) rfl (hb hby d10_2) rfl (decide_eq_false fun q => (hne) (Value.ref.inj q)) (by decide) (by decide) k) ?_
  show WP p e below _ (s₁.setTop (mkF m 7 #[.val (.ref a1), .val (.ref a2), .unset] []))
  refine own_go (fun t_ k => XS.aloadN X0.here hx rfl (hb hby d10_7) rfl rfl k) ?_
  show WP p e below _ (s₁.setTop (mkF m 8 #[.val (.ref a1), .val (.ref a2), .unset] [(.ref a2)]))
  obtain ⟨T1, X1, e1, st1⟩ := instY X0 hx hZ hown (hw _ (List.mem_of_getElem? (i := 71) rfl)) e0 (Ins.of_exa Pf0 (hw _ (List.mem_of_getElem? (i := 13) rfl))) (g := (mkF m 8 #[.val (.ref a1), .val (.ref a2), .unset] [(.ref a2)])) rfl rfl (hb hby d10_8)
  refine own_go st1 ?_
  show WP p e below _ (T1.setTop (mkF m 11 #[.val (.ref a1), .val (.ref a2), .unset] [(.int (1 : Int32))]))
  have hc11_2 : ¬ ((1 : Int32) = (0 : Int32)) := by decide
  refine own_go (fun t_ k => XS.ifNo X1.here hx rfl (hb hby d10_11) rfl ((if0 _ _).trans (feq hc11_2).1) k) ?_
  show WP p e below _ (T1.setTop (mkF m 14 #[.val (.ref a1), .val (.ref a2), .unset] []))
  refine own_go (fun t_ k => XS.aloadN X1.here hx rfl (hb hby d10_14) rfl rfl k) ?_
  show WP p e below _ (T1.setTop (mkF m 15 #[.val (.ref a1), .val (.ref a2), .unset] [(.ref a2)]))
  obtain ⟨T3, X3, e3, st3⟩ := castY X1 hx hZ hown (hw _ (List.mem_of_getElem? (i := 71) rfl)) e1 (Ins.of_exa Pf0 (hw _ (List.mem_of_getElem? (i := 13) rfl))) (g := (mkF m 15 #[.val (.ref a1), .val (.ref a2), .unset] [(.ref a2)])) rfl rfl (hb hby d10_15)
  refine own_go st3 ?_
  show WP p e below _ (T3.setTop (mkF m 18 #[.val (.ref a1), .val (.ref a2), .unset] [(.ref a2)]))
  refine own_go (fun t_ k => XS.astoreN X3.here hx rfl (hb hby d10_18) rfl rfl (l' := #[.val (.ref a1), .val (.ref a2), .val (.ref a2)]) rfl k) ?_
  show WP p e below _ (T3.setTop (mkF m 19 #[.val (.ref a1), .val (.ref a2), .val (.ref a2)] []))
  obtain ⟨T4, X4, e4, st4⟩ := getS2 X3 hx hZ hown (host := "") (Or.inl (hw _ (List.mem_of_getElem? (i := 72) rfl))) Via.refl e3 Pf1 (g := (mkF m 19 #[.val (.ref a1), .val (.ref a2), .val (.ref a2)] [])) rfl (hb hby d10_19)
  refine own_go st4 ?_
  show WP p e below _ (T4.setTop (mkF m 22 #[.val (.ref a1), .val (.ref a2), .val (.ref a2)] [(.int cs)]))
  have hc22_5 : ¬ (cs = (0 : Int32)) := hcs
  refine own_go (fun t_ k => XS.ifNo X4.here hx rfl (hb hby d10_22) rfl ((if0 _ _).trans (feq hc22_5).1) k) ?_
  show WP p e below _ (T4.setTop (mkF m 25 #[.val (.ref a1), .val (.ref a2), .val (.ref a2)] []))
  refine own_go (fun t_ k => XS.aloadN X4.here hx rfl (hb hby d10_25) rfl rfl k) ?_
  show WP p e below _ (T4.setTop (mkF m 26 #[.val (.ref a1), .val (.ref a2), .val (.ref a2)] [(.ref a1)]))
  obtain ⟨T6, X6, e6, st6⟩ := getF X4 hx hZ hown (host := "") (Or.inl (hw _ (List.mem_of_getElem? (i := 25) rfl))) Via.refl e4 Pf2 (g := (mkF m 26 #[.val (.ref a1), .val (.ref a2), .val (.ref a2)] [(.ref a1)])) rfl rfl (hb hby d10_26)
  refine own_go st6 ?_
  show WP p e below _ (T6.setTop (mkF m 29 #[.val (.ref a1), .val (.ref a2), .val (.ref a2)] [(.int (0 : Int32))]))
  refine own_go (fun t_ k => XS.aloadN X6.here hx rfl (hb hby d10_29) rfl rfl k) ?_
  show WP p e below _ (T6.setTop (mkF m 30 #[.val (.ref a1), .val (.ref a2), .val (.ref a2)] [(.ref a2), (.int (0 : Int32))]))
  obtain ⟨T7, X7, e7, st7⟩ := getF X6 hx hZ hown (host := "") (Or.inl (hw _ (List.mem_of_getElem? (i := 25) rfl))) Via.refl e6 Pf3 (g := (mkF m 30 #[.val (.ref a1), .val (.ref a2), .val (.ref a2)] [(.ref a2), (.int (0 : Int32))])) rfl rfl (hb hby d10_30)
  refine own_go st7 ?_
  show WP p e below _ (T7.setTop (mkF m 33 #[.val (.ref a1), .val (.ref a2), .val (.ref a2)] [(.int (0 : Int32)), (.int (0 : Int32))]))
  have hc33_8 : ((0 : Int32) = (0 : Int32)) := by decide
  refine own_go (fun t_ k => XS.icmpNo X7.here hx rfl (hb hby d10_33) rfl (teq hc33_8).2 k) ?_
  show WP p e below _ (T7.setTop (mkF m 36 #[.val (.ref a1), .val (.ref a2), .val (.ref a2)] []))
  refine own_go (fun t_ k => XS.aloadN X7.here hx rfl (hb hby d10_36) rfl rfl k) ?_
  show WP p e below _ (T7.setTop (mkF m 37 #[.val (.ref a1), .val (.ref a2), .val (.ref a2)] [(.ref a1)]))
  obtain ⟨T9, X9, e9, st9⟩ := getF X7 hx hZ hown (host := "") (Or.inl (hw _ (List.mem_of_getElem? (i := 24) rfl))) Via.refl e7 Pf4 (g := (mkF m 37 #[.val (.ref a1), .val (.ref a2), .val (.ref a2)] [(.ref a1)])) rfl rfl (hb hby d10_37)
  refine own_go st9 ?_
  show WP p e below _ (T9.setTop (mkF m 40 #[.val (.ref a1), .val (.ref a2), .val (.ref a2)] [(.ref b1)]))
  refine own_go (fun t_ k => XS.aloadN X9.here hx rfl (hb hby d10_40) rfl rfl k) ?_
  show WP p e below _ (T9.setTop (mkF m 41 #[.val (.ref a1), .val (.ref a2), .val (.ref a2)] [(.ref a2), (.ref b1)]))
  obtain ⟨T10, X10, e10, st10⟩ := getF X9 hx hZ hown (host := "") (Or.inl (hw _ (List.mem_of_getElem? (i := 24) rfl))) Via.refl e9 Pf5 (g := (mkF m 41 #[.val (.ref a1), .val (.ref a2), .val (.ref a2)] [(.ref a2), (.ref b1)])) rfl rfl (hb hby d10_41)
  refine own_go st10 ?_
  show WP p e below _ (T10.setTop (mkF m 44 #[.val (.ref a1), .val (.ref a2), .val (.ref a2)] [(.ref b2), (.ref b1)]))
  obtain ⟨_, T11, Lc11, X11, hQ11, st11⟩ := own_un X10 0 0 (Jvm.LawKit.callS X10 hx (y := (⟨"java/lang/StringLatin1", "equals", "([B[B)Z"⟩ : MethodName)) hown (mvT hZ (hw _ (List.mem_of_getElem? (i := 73) rfl))) (mvT hZ (hw _ (List.mem_of_getElem? (i := 74) rfl))) (mvT hZ (hw _ (List.mem_of_getElem? (i := 75) rfl))) (mvT hZ (hw _ (List.mem_of_getElem? (i := 76) rfl))) (by decide) (backOf (W := 0) (rmLe_2_0 l Z a0 hw [] b1 b2 k1 k2 u0 u1 h0 n0 Pf6 Pf7 ) hZ (hw _ (List.mem_of_getElem? (i := 76) rfl)) (hw _ (List.mem_of_getElem? (i := 75) rfl)) (by decide) (by decide)) (g := (mkF m 44 #[.val (.ref a1), .val (.ref a2), .val (.ref a2)] [(.ref b2), (.ref b1)])) rfl (by rw [hml]; rfl) (argsL := [(.ref b1), (.ref b2)]) (rest := []) (lenOf pd_6 rfl) rfl (by show 2 * 0 + _ ≤ _; exact Nat.le_of_eq rfl) (hb hby d10_44) (fun _ _ => ⟨rfl, e10, (by decide : 0 + 0 ≤ _), (by decide : 0 + 0 ≤ _)⟩))
  dsimp only [Pt.U] at st11
  have er11 : T11.heap = T11.heap := rfl
  obtain ⟨rfl, N11q, e11⟩ := hQ11
  have N11 := Fr.app N0 N11q
  replace X11 : Stand p l e ({ frames := 1, cells := 0, slots := 0, locals := 14 } : Room) s m _ below meth c T11 _ 0 0 := X11
  refine own_go st11 ?_
  show WP p e below _ (T11.setTop (mkF m 47 #[.val (.ref a1), .val (.ref a2), .val (.ref a2)] [(.int (f_rmLe_2_0 u0 u1))]))
  by_cases hc47_12 : (f_rmLe_2_0 u0 u1) = (0 : Int32)
  · refine own_go (fun t_ k => XS.ifYes X11.here hx rfl (pc0 := 47) (pc' := 54) rfl (hb hby d10_47) rfl ((if0 _ _).trans (teq hc47_12).1) (by decide) (by decide) k) ?_
    show WP p e below _ (T11.setTop (mkF m 54 #[.val (.ref a1), .val (.ref a2), .val (.ref a2)] []))
    refine own_go (fun t_ k => XS.iconst X11.here hx rfl (hb hby d10_54) k) ?_
    show WP p e below _ (T11.setTop (mkF m 55 #[.val (.ref a1), .val (.ref a2), .val (.ref a2)] [(.int (0 : Int32))]))
    exact own_retZ X11 hx Bd.notSynchronized Bd.returns (hb hby d10_55) (by decide) (⟨by rw [f_rmSe_2_0, if_pos hc47_12], N11, e11⟩) (by decide) (by decide)
  · refine own_go (fun t_ k => XS.ifNo X11.here hx rfl (hb hby d10_47) rfl ((if0 _ _).trans (feq hc47_12).1) k) ?_
    show WP p e below _ (T11.setTop (mkF m 50 #[.val (.ref a1), .val (.ref a2), .val (.ref a2)] []))
    refine own_go (fun t_ k => XS.iconst X11.here hx rfl (hb hby d10_50) k) ?_
    show WP p e below _ (T11.setTop (mkF m 51 #[.val (.ref a1), .val (.ref a2), .val (.ref a2)] [(.int (1 : Int32))]))
    refine own_go (fun t_ k => XS.goto X11.here hx rfl (pc0 := 51) (pc' := 55) rfl (hb hby d10_51) (by decide) (by decide) k) ?_
    show WP p e below _ (T11.setTop (mkF m 55 #[.val (.ref a1), .val (.ref a2), .val (.ref a2)] [(.int (1 : Int32))]))
    exact own_retZ X11 hx Bd.notSynchronized Bd.returns (hb hby d10_55) (by decide) (⟨by rw [f_rmSe_2_0, if_neg hc47_12], N11, e11⟩) (by decide) (by decide)
def f_rmSe_2_1 (u0 : Int32) (u1 : Int32) (w0 : Int32) (cs : Int32) : Int32 := (if (f_rmLe_2_1 u0 u1 w0) = (0 : Int32) then (0 : Int32) else (1 : Int32))
def Q_rmSe_2_1 (Z : State) (a1 : Addr) (a2 : Addr) (b1 : Addr) (b2 : Addr) (k1 : ClassId) (k2 : ClassId) (u0 : Int32) (u1 : Int32) (w0 : Int32) (cs : Int32) (h0 : Heap) (n0 : Nat) (v : Option Value) (h : Heap) (L : List Loc) : Prop := v = some (.int (f_rmSe_2_1 u0 u1 w0 cs)) ∧ Fr n0 L ∧ h = h0
theorem ef_rmSe_2_1 (m : MethodId) (x0 : Addr) (x1 : Addr) : entryFrame m #[(.ref x0), (.ref x1)] 3 = mkF m 0 #[.val (.ref x0), .val (.ref x1), .unset] [] := by first | (simp [entryFrame, mkF, argsToLocals, Value.category]; done) | rfl
set_option maxRecDepth 65536 in
set_option maxHeartbeats 40000000 in
theorem rmSe_2_1 (l : Launch) (Z : State) (a0 : Array Value) (hw : ∀ d ∈ tables_1, d.before a0 Z = true) (ws : List Jvm.Cond) (a1 : Addr) (a2 : Addr) (b1 : Addr) (b2 : Addr) (k1 : ClassId) (k2 : ClassId) (u0 : Int32) (u1 : Int32) (w0 : Int32) (cs : Int32) (h0 : Heap) (n0 : Nat) (Pf0 : Exa Z h0 a2 "java/lang/String") (Pf1 : Sta Z h0 "java/lang/String" "COMPACT_STRINGS" "Z" (.int cs)) (Pf2 : Fld Z h0 a1 "java/lang/String" "coder" "B" (.int (0 : Int32))) (Pf3 : Fld Z h0 a2 "java/lang/String" "coder" "B" (.int (0 : Int32))) (Pf4 : Fld Z h0 a1 "java/lang/String" "value" "[B" (.ref b1)) (Pf5 : Fld Z h0 a2 "java/lang/String" "value" "[B" (.ref b2)) (Pf6 : Arv Z h0 b1 k1 .byte (2 : Int32) [(.int u0), (.int u1)] (.int (0 : Int32))) (Pf7 : Arv Z h0 b2 k2 .byte (1 : Int32) [(.int w0)] (.int (0 : Int32))) (hne : a1 ≠ a2) (hcs : ¬ cs = (0 : Int32)) :
    MetFree l (⟨"java/lang/String", "equals", "(Ljava/lang/Object;)Z"⟩ : MethodName) (head1 (Jvm.Cond.code (⟨"java/lang/String", "equals", "(Ljava/lang/Object;)Z"⟩ : MethodName) jdk_42_method_66_code 3 (some .boolean) :: ws) ({ frames := 1, cells := 0, slots := 0, locals := 14 } : Room)) (fun a U => a = #[(.ref a1), (.ref a2)] ∧ Z.Warmed39 U.vm ∧ U.heap = h0) (fun _ _ _ _ _ => True) (fun _ U o U' => ∃ v L, o = .returned v ∧ (Q_rmSe_2_1 Z a1 a2 b1 b2 k1 k2 u0 u1 w0 cs h0 n0) v U'.heap L ∧ FrameEnd U o U' L ({ frames := 1, cells := 0, slots := 0, locals := 14 } : Room).cells ({ frames := 1, cells := 0, slots := 0, locals := 14 } : Room).slots) := by
  refine MetFree.of_bodySF (plainFor_of_name pn_1) hisR ?_
  intro p e s m args below meth c s₁ Bd hml0 hP hK
  obtain ⟨rfl, hZ, hh⟩ := hP
  have hx := Bd.exec
  have hby := Bd.bytes
  have hml : c.maxLocals = 3 := hml0
  have hown : s.vm.findClass "java/lang/String" = some m.cls := findClass_of_methodNamed Bd.named
  have hnm := (name_of_methodNamed Bd.named Bd.method).1
  have X0 : Stand p l e ({ frames := 1, cells := 0, slots := 0, locals := 14 } : Room) s m #[(.ref a1), (.ref a2)] below meth c s₁ [] 0 0 := Stand.of_body Bd
  have e0 : s₁.heap = h0 := by rw [← hh, Bd.state]; rfl
  have N0 := Fr.nil n0
  show WP p e below (GG (Q_rmSe_2_1 Z a1 a2 b1 b2 k1 k2 u0 u1 w0 cs h0 n0) s ({ frames := 1, cells := 0, slots := 0, locals := 14 } : Room).cells ({ frames := 1, cells := 0, slots := 0, locals := 14 } : Room).slots) (s₁.setTop (entryFrame m #[(.ref a1), (.ref a2)] 3))
  rw [ef_rmSe_2_1 m a1 a2]
  show WP p e below _ (s₁.setTop (mkF m 0 #[.val (.ref a1), .val (.ref a2), .unset] []))
  refine own_go (fun t_ k => XS.aloadN X0.here hx rfl (hb hby d10_0) rfl rfl k) ?_
  show WP p e below _ (s₁.setTop (mkF m 1 #[.val (.ref a1), .val (.ref a2), .unset] [(.ref a1)]))
  refine own_go (fun t_ k => XS.aloadN X0.here hx rfl (hb hby d10_1) rfl rfl k) ?_
  show WP p e below _ (s₁.setTop (mkF m 2 #[.val (.ref a1), .val (.ref a2), .unset] [(.ref a2), (.ref a1)]))
  refine own_go (fun t_ k => Jvm.RoadKit.acmp (g := (mkF m 2 #[.val (.ref a1), .val (.ref a2), .unset] [(.ref a2), (.ref a1)])) X0 hx rfl rfl rfl (pc0 := 2) (pc' := 7) (same := false) rfl (hb hby d10_2) rfl (decide_eq_false fun q => (hne) (Value.ref.inj q)) (by decide) (by decide) k) ?_
  show WP p e below _ (s₁.setTop (mkF m 7 #[.val (.ref a1), .val (.ref a2), .unset] []))
  refine own_go (fun t_ k => XS.aloadN X0.here hx rfl (hb hby d10_7) rfl rfl k) ?_
  show WP p e below _ (s₁.setTop (mkF m 8 #[.val (.ref a1), .val (.ref a2), .unset] [(.ref a2)]))
  obtain ⟨T1, X1, e1, st1⟩ := instY X0 hx hZ hown (hw _ (List.mem_of_getElem? (i := 71) rfl)) e0 (Ins.of_exa Pf0 (hw _ (List.mem_of_getElem? (i := 13) rfl))) (g := (mkF m 8 #[.val (.ref a1), .val (.ref a2), .unset] [(.ref a2)])) rfl rfl (hb hby d10_8)
  refine own_go st1 ?_
  show WP p e below _ (T1.setTop (mkF m 11 #[.val (.ref a1), .val (.ref a2), .unset] [(.int (1 : Int32))]))
  have hc11_2 : ¬ ((1 : Int32) = (0 : Int32)) := by decide
  refine own_go (fun t_ k => XS.ifNo X1.here hx rfl (hb hby d10_11) rfl ((if0 _ _).trans (feq hc11_2).1) k) ?_
  show WP p e below _ (T1.setTop (mkF m 14 #[.val (.ref a1), .val (.ref a2), .unset] []))
  refine own_go (fun t_ k => XS.aloadN X1.here hx rfl (hb hby d10_14) rfl rfl k) ?_
  show WP p e below _ (T1.setTop (mkF m 15 #[.val (.ref a1), .val (.ref a2), .unset] [(.ref a2)]))
  obtain ⟨T3, X3, e3, st3⟩ := castY X1 hx hZ hown (hw _ (List.mem_of_getElem? (i := 71) rfl)) e1 (Ins.of_exa Pf0 (hw _ (List.mem_of_getElem? (i := 13) rfl))) (g := (mkF m 15 #[.val (.ref a1), .val (.ref a2), .unset] [(.ref a2)])) rfl rfl (hb hby d10_15)
  refine own_go st3 ?_
  show WP p e below _ (T3.setTop (mkF m 18 #[.val (.ref a1), .val (.ref a2), .unset] [(.ref a2)]))
  refine own_go (fun t_ k => XS.astoreN X3.here hx rfl (hb hby d10_18) rfl rfl (l' := #[.val (.ref a1), .val (.ref a2), .val (.ref a2)]) rfl k) ?_
  show WP p e below _ (T3.setTop (mkF m 19 #[.val (.ref a1), .val (.ref a2), .val (.ref a2)] []))
  obtain ⟨T4, X4, e4, st4⟩ := getS2 X3 hx hZ hown (host := "") (Or.inl (hw _ (List.mem_of_getElem? (i := 72) rfl))) Via.refl e3 Pf1 (g := (mkF m 19 #[.val (.ref a1), .val (.ref a2), .val (.ref a2)] [])) rfl (hb hby d10_19)
  refine own_go st4 ?_
  show WP p e below _ (T4.setTop (mkF m 22 #[.val (.ref a1), .val (.ref a2), .val (.ref a2)] [(.int cs)]))
  have hc22_5 : ¬ (cs = (0 : Int32)) := hcs
  refine own_go (fun t_ k => XS.ifNo X4.here hx rfl (hb hby d10_22) rfl ((if0 _ _).trans (feq hc22_5).1) k) ?_
  show WP p e below _ (T4.setTop (mkF m 25 #[.val (.ref a1), .val (.ref a2), .val (.ref a2)] []))
  refine own_go (fun t_ k => XS.aloadN X4.here hx rfl (hb hby d10_25) rfl rfl k) ?_
  show WP p e below _ (T4.setTop (mkF m 26 #[.val (.ref a1), .val (.ref a2), .val (.ref a2)] [(.ref a1)]))
  obtain ⟨T6, X6, e6, st6⟩ := getF X4 hx hZ hown (host := "") (Or.inl (hw _ (List.mem_of_getElem? (i := 25) rfl))) Via.refl e4 Pf2 (g := (mkF m 26 #[.val (.ref a1), .val (.ref a2), .val (.ref a2)] [(.ref a1)])) rfl rfl (hb hby d10_26)
  refine own_go st6 ?_
  show WP p e below _ (T6.setTop (mkF m 29 #[.val (.ref a1), .val (.ref a2), .val (.ref a2)] [(.int (0 : Int32))]))
  refine own_go (fun t_ k => XS.aloadN X6.here hx rfl (hb hby d10_29) rfl rfl k) ?_
  show WP p e below _ (T6.setTop (mkF m 30 #[.val (.ref a1), .val (.ref a2), .val (.ref a2)] [(.ref a2), (.int (0 : Int32))]))
  obtain ⟨T7, X7, e7, st7⟩ := getF X6 hx hZ hown (host := "") (Or.inl (hw _ (List.mem_of_getElem? (i := 25) rfl))) Via.refl e6 Pf3 (g := (mkF m 30 #[.val (.ref a1), .val (.ref a2), .val (.ref a2)] [(.ref a2), (.int (0 : Int32))])) rfl rfl (hb hby d10_30)
  refine own_go st7 ?_
  show WP p e below _ (T7.setTop (mkF m 33 #[.val (.ref a1), .val (.ref a2), .val (.ref a2)] [(.int (0 : Int32)), (.int (0 : Int32))]))
  have hc33_8 : ((0 : Int32) = (0 : Int32)) := by decide
  refine own_go (fun t_ k => XS.icmpNo X7.here hx rfl (hb hby d10_33) rfl (teq hc33_8).2 k) ?_
  show WP p e below _ (T7.setTop (mkF m 36 #[.val (.ref a1), .val (.ref a2), .val (.ref a2)] []))
  refine own_go (fun t_ k => XS.aloadN X7.here hx rfl (hb hby d10_36) rfl rfl k) ?_
  show WP p e below _ (T7.setTop (mkF m 37 #[.val (.ref a1), .val (.ref a2), .val (.ref a2)] [(.ref a1)]))
  obtain ⟨T9, X9, e9, st9⟩ := getF X7 hx hZ hown (host := "") (Or.inl (hw _ (List.mem_of_getElem? (i := 24) rfl))) Via.refl e7 Pf4 (g := (mkF m 37 #[.val (.ref a1), .val (.ref a2), .val (.ref a2)] [(.ref a1)])) rfl rfl (hb hby d10_37)
  refine own_go st9 ?_
  show WP p e below _ (T9.setTop (mkF m 40 #[.val (.ref a1), .val (.ref a2), .val (.ref a2)] [(.ref b1)]))
  refine own_go (fun t_ k => XS.aloadN X9.here hx rfl (hb hby d10_40) rfl rfl k) ?_
  show WP p e below _ (T9.setTop (mkF m 41 #[.val (.ref a1), .val (.ref a2), .val (.ref a2)] [(.ref a2), (.ref b1)]))
  obtain ⟨T10, X10, e10, st10⟩ := getF X9 hx hZ hown (host := "") (Or.inl (hw _ (List.mem_of_getElem? (i := 24) rfl))) Via.refl e9 Pf5 (g := (mkF m 41 #[.val (.ref a1), .val (.ref a2), .val (.ref a2)] [(.ref a2), (.ref b1)])) rfl rfl (hb hby d10_41)
  refine own_go st10 ?_
  show WP p e below _ (T10.setTop (mkF m 44 #[.val (.ref a1), .val (.ref a2), .val (.ref a2)] [(.ref b2), (.ref b1)]))
  obtain ⟨_, T11, Lc11, X11, hQ11, st11⟩ := own_un X10 0 0 (Jvm.LawKit.callS X10 hx (y := (⟨"java/lang/StringLatin1", "equals", "([B[B)Z"⟩ : MethodName)) hown (mvT hZ (hw _ (List.mem_of_getElem? (i := 73) rfl))) (mvT hZ (hw _ (List.mem_of_getElem? (i := 74) rfl))) (mvT hZ (hw _ (List.mem_of_getElem? (i := 75) rfl))) (mvT hZ (hw _ (List.mem_of_getElem? (i := 76) rfl))) (by decide) (backOf (W := 0) (rmLe_2_1 l Z a0 hw [] b1 b2 k1 k2 u0 u1 w0 h0 n0 Pf6 Pf7 ) hZ (hw _ (List.mem_of_getElem? (i := 76) rfl)) (hw _ (List.mem_of_getElem? (i := 75) rfl)) (by decide) (by decide)) (g := (mkF m 44 #[.val (.ref a1), .val (.ref a2), .val (.ref a2)] [(.ref b2), (.ref b1)])) rfl (by rw [hml]; rfl) (argsL := [(.ref b1), (.ref b2)]) (rest := []) (lenOf pd_6 rfl) rfl (by show 2 * 0 + _ ≤ _; exact Nat.le_of_eq rfl) (hb hby d10_44) (fun _ _ => ⟨rfl, e10, (by decide : 0 + 0 ≤ _), (by decide : 0 + 0 ≤ _)⟩))
  dsimp only [Pt.U] at st11
  have er11 : T11.heap = T11.heap := rfl
  obtain ⟨rfl, N11q, e11⟩ := hQ11
  have N11 := Fr.app N0 N11q
  replace X11 : Stand p l e ({ frames := 1, cells := 0, slots := 0, locals := 14 } : Room) s m _ below meth c T11 _ 0 0 := X11
  refine own_go st11 ?_
  show WP p e below _ (T11.setTop (mkF m 47 #[.val (.ref a1), .val (.ref a2), .val (.ref a2)] [(.int (f_rmLe_2_1 u0 u1 w0))]))
  by_cases hc47_12 : (f_rmLe_2_1 u0 u1 w0) = (0 : Int32)
  · refine own_go (fun t_ k => XS.ifYes X11.here hx rfl (pc0 := 47) (pc' := 54) rfl (hb hby d10_47) rfl ((if0 _ _).trans (teq hc47_12).1) (by decide) (by decide) k) ?_
    show WP p e below _ (T11.setTop (mkF m 54 #[.val (.ref a1), .val (.ref a2), .val (.ref a2)] []))
    refine own_go (fun t_ k => XS.iconst X11.here hx rfl (hb hby d10_54) k) ?_
    show WP p e below _ (T11.setTop (mkF m 55 #[.val (.ref a1), .val (.ref a2), .val (.ref a2)] [(.int (0 : Int32))]))
    exact own_retZ X11 hx Bd.notSynchronized Bd.returns (hb hby d10_55) (by decide) (⟨by rw [f_rmSe_2_1, if_pos hc47_12], N11, e11⟩) (by decide) (by decide)
  · refine own_go (fun t_ k => XS.ifNo X11.here hx rfl (hb hby d10_47) rfl ((if0 _ _).trans (feq hc47_12).1) k) ?_
    show WP p e below _ (T11.setTop (mkF m 50 #[.val (.ref a1), .val (.ref a2), .val (.ref a2)] []))
    refine own_go (fun t_ k => XS.iconst X11.here hx rfl (hb hby d10_50) k) ?_
    show WP p e below _ (T11.setTop (mkF m 51 #[.val (.ref a1), .val (.ref a2), .val (.ref a2)] [(.int (1 : Int32))]))
    refine own_go (fun t_ k => XS.goto X11.here hx rfl (pc0 := 51) (pc' := 55) rfl (hb hby d10_51) (by decide) (by decide) k) ?_
    show WP p e below _ (T11.setTop (mkF m 55 #[.val (.ref a1), .val (.ref a2), .val (.ref a2)] [(.int (1 : Int32))]))
    exact own_retZ X11 hx Bd.notSynchronized Bd.returns (hb hby d10_55) (by decide) (⟨by rw [f_rmSe_2_1, if_neg hc47_12], N11, e11⟩) (by decide) (by decide)
def f_rmSe_2_2 (u0 : Int32) (u1 : Int32) (w0 : Int32) (w1 : Int32) (cs : Int32) : Int32 := (if (f_rmLe_2_2 u0 u1 w0 w1) = (0 : Int32) then (0 : Int32) else (1 : Int32))
def Q_rmSe_2_2 (Z : State) (a1 : Addr) (a2 : Addr) (b1 : Addr) (b2 : Addr) (k1 : ClassId) (k2 : ClassId) (u0 : Int32) (u1 : Int32) (w0 : Int32) (w1 : Int32) (cs : Int32) (h0 : Heap) (n0 : Nat) (v : Option Value) (h : Heap) (L : List Loc) : Prop := v = some (.int (f_rmSe_2_2 u0 u1 w0 w1 cs)) ∧ Fr n0 L ∧ h = h0
theorem ef_rmSe_2_2 (m : MethodId) (x0 : Addr) (x1 : Addr) : entryFrame m #[(.ref x0), (.ref x1)] 3 = mkF m 0 #[.val (.ref x0), .val (.ref x1), .unset] [] := by first | (simp [entryFrame, mkF, argsToLocals, Value.category]; done) | rfl
set_option maxRecDepth 65536 in
set_option maxHeartbeats 40000000 in
theorem rmSe_2_2 (l : Launch) (Z : State) (a0 : Array Value) (hw : ∀ d ∈ tables_1, d.before a0 Z = true) (ws : List Jvm.Cond) (a1 : Addr) (a2 : Addr) (b1 : Addr) (b2 : Addr) (k1 : ClassId) (k2 : ClassId) (u0 : Int32) (u1 : Int32) (w0 : Int32) (w1 : Int32) (cs : Int32) (h0 : Heap) (n0 : Nat) (Pf0 : Exa Z h0 a2 "java/lang/String") (Pf1 : Sta Z h0 "java/lang/String" "COMPACT_STRINGS" "Z" (.int cs)) (Pf2 : Fld Z h0 a1 "java/lang/String" "coder" "B" (.int (0 : Int32))) (Pf3 : Fld Z h0 a2 "java/lang/String" "coder" "B" (.int (0 : Int32))) (Pf4 : Fld Z h0 a1 "java/lang/String" "value" "[B" (.ref b1)) (Pf5 : Fld Z h0 a2 "java/lang/String" "value" "[B" (.ref b2)) (Pf6 : Arv Z h0 b1 k1 .byte (2 : Int32) [(.int u0), (.int u1)] (.int (0 : Int32))) (Pf7 : Arv Z h0 b2 k2 .byte (2 : Int32) [(.int w0), (.int w1)] (.int (0 : Int32))) (hne : a1 ≠ a2) (hcs : ¬ cs = (0 : Int32)) :
    MetFree l (⟨"java/lang/String", "equals", "(Ljava/lang/Object;)Z"⟩ : MethodName) (head1 (Jvm.Cond.code (⟨"java/lang/String", "equals", "(Ljava/lang/Object;)Z"⟩ : MethodName) jdk_42_method_66_code 3 (some .boolean) :: ws) ({ frames := 1, cells := 0, slots := 0, locals := 14 } : Room)) (fun a U => a = #[(.ref a1), (.ref a2)] ∧ Z.Warmed39 U.vm ∧ U.heap = h0) (fun _ _ _ _ _ => True) (fun _ U o U' => ∃ v L, o = .returned v ∧ (Q_rmSe_2_2 Z a1 a2 b1 b2 k1 k2 u0 u1 w0 w1 cs h0 n0) v U'.heap L ∧ FrameEnd U o U' L ({ frames := 1, cells := 0, slots := 0, locals := 14 } : Room).cells ({ frames := 1, cells := 0, slots := 0, locals := 14 } : Room).slots) := by
  refine MetFree.of_bodySF (plainFor_of_name pn_1) hisR ?_
  intro p e s m args below meth c s₁ Bd hml0 hP hK
  obtain ⟨rfl, hZ, hh⟩ := hP
  have hx := Bd.exec
  have hby := Bd.bytes
  have hml : c.maxLocals = 3 := hml0
  have hown : s.vm.findClass "java/lang/String" = some m.cls := findClass_of_methodNamed Bd.named
  have hnm := (name_of_methodNamed Bd.named Bd.method).1
  have X0 : Stand p l e ({ frames := 1, cells := 0, slots := 0, locals := 14 } : Room) s m #[(.ref a1), (.ref a2)] below meth c s₁ [] 0 0 := Stand.of_body Bd
  have e0 : s₁.heap = h0 := by rw [← hh, Bd.state]; rfl
  have N0 := Fr.nil n0
  show WP p e below (GG (Q_rmSe_2_2 Z a1 a2 b1 b2 k1 k2 u0 u1 w0 w1 cs h0 n0) s ({ frames := 1, cells := 0, slots := 0, locals := 14 } : Room).cells ({ frames := 1, cells := 0, slots := 0, locals := 14 } : Room).slots) (s₁.setTop (entryFrame m #[(.ref a1), (.ref a2)] 3))
  rw [ef_rmSe_2_2 m a1 a2]
  show WP p e below _ (s₁.setTop (mkF m 0 #[.val (.ref a1), .val (.ref a2), .unset] []))
  refine own_go (fun t_ k => XS.aloadN X0.here hx rfl (hb hby d10_0) rfl rfl k) ?_
  show WP p e below _ (s₁.setTop (mkF m 1 #[.val (.ref a1), .val (.ref a2), .unset] [(.ref a1)]))
  refine own_go (fun t_ k => XS.aloadN X0.here hx rfl (hb hby d10_1) rfl rfl k) ?_
  show WP p e below _ (s₁.setTop (mkF m 2 #[.val (.ref a1), .val (.ref a2), .unset] [(.ref a2), (.ref a1)]))
  refine own_go (fun t_ k => Jvm.RoadKit.acmp (g := (mkF m 2 #[.val (.ref a1), .val (.ref a2), .unset] [(.ref a2), (.ref a1)])) X0 hx rfl rfl rfl (pc0 := 2) (pc' := 7) (same := false) rfl (hb hby d10_2) rfl (decide_eq_false fun q => (hne) (Value.ref.inj q)) (by decide) (by decide) k) ?_
  show WP p e below _ (s₁.setTop (mkF m 7 #[.val (.ref a1), .val (.ref a2), .unset] []))
  refine own_go (fun t_ k => XS.aloadN X0.here hx rfl (hb hby d10_7) rfl rfl k) ?_
  show WP p e below _ (s₁.setTop (mkF m 8 #[.val (.ref a1), .val (.ref a2), .unset] [(.ref a2)]))
  obtain ⟨T1, X1, e1, st1⟩ := instY X0 hx hZ hown (hw _ (List.mem_of_getElem? (i := 71) rfl)) e0 (Ins.of_exa Pf0 (hw _ (List.mem_of_getElem? (i := 13) rfl))) (g := (mkF m 8 #[.val (.ref a1), .val (.ref a2), .unset] [(.ref a2)])) rfl rfl (hb hby d10_8)
  refine own_go st1 ?_
  show WP p e below _ (T1.setTop (mkF m 11 #[.val (.ref a1), .val (.ref a2), .unset] [(.int (1 : Int32))]))
  have hc11_2 : ¬ ((1 : Int32) = (0 : Int32)) := by decide
  refine own_go (fun t_ k => XS.ifNo X1.here hx rfl (hb hby d10_11) rfl ((if0 _ _).trans (feq hc11_2).1) k) ?_
  show WP p e below _ (T1.setTop (mkF m 14 #[.val (.ref a1), .val (.ref a2), .unset] []))
  refine own_go (fun t_ k => XS.aloadN X1.here hx rfl (hb hby d10_14) rfl rfl k) ?_
  show WP p e below _ (T1.setTop (mkF m 15 #[.val (.ref a1), .val (.ref a2), .unset] [(.ref a2)]))
  obtain ⟨T3, X3, e3, st3⟩ := castY X1 hx hZ hown (hw _ (List.mem_of_getElem? (i := 71) rfl)) e1 (Ins.of_exa Pf0 (hw _ (List.mem_of_getElem? (i := 13) rfl))) (g := (mkF m 15 #[.val (.ref a1), .val (.ref a2), .unset] [(.ref a2)])) rfl rfl (hb hby d10_15)
  refine own_go st3 ?_
  show WP p e below _ (T3.setTop (mkF m 18 #[.val (.ref a1), .val (.ref a2), .unset] [(.ref a2)]))
  refine own_go (fun t_ k => XS.astoreN X3.here hx rfl (hb hby d10_18) rfl rfl (l' := #[.val (.ref a1), .val (.ref a2), .val (.ref a2)]) rfl k) ?_
  show WP p e below _ (T3.setTop (mkF m 19 #[.val (.ref a1), .val (.ref a2), .val (.ref a2)] []))
  obtain ⟨T4, X4, e4, st4⟩ := getS2 X3 hx hZ hown (host := "") (Or.inl (hw _ (List.mem_of_getElem? (i := 72) rfl))) Via.refl e3 Pf1 (g := (mkF m 19 #[.val (.ref a1), .val (.ref a2), .val (.ref a2)] [])) rfl (hb hby d10_19)
  refine own_go st4 ?_
  show WP p e below _ (T4.setTop (mkF m 22 #[.val (.ref a1), .val (.ref a2), .val (.ref a2)] [(.int cs)]))
  have hc22_5 : ¬ (cs = (0 : Int32)) := hcs
  refine own_go (fun t_ k => XS.ifNo X4.here hx rfl (hb hby d10_22) rfl ((if0 _ _).trans (feq hc22_5).1) k) ?_
  show WP p e below _ (T4.setTop (mkF m 25 #[.val (.ref a1), .val (.ref a2), .val (.ref a2)] []))
  refine own_go (fun t_ k => XS.aloadN X4.here hx rfl (hb hby d10_25) rfl rfl k) ?_
  show WP p e below _ (T4.setTop (mkF m 26 #[.val (.ref a1), .val (.ref a2), .val (.ref a2)] [(.ref a1)]))
  obtain ⟨T6, X6, e6, st6⟩ := getF X4 hx hZ hown (host := "") (Or.inl (hw _ (List.mem_of_getElem? (i := 25) rfl))) Via.refl e4 Pf2 (g := (mkF m 26 #[.val (.ref a1), .val (.ref a2), .val (.ref a2)] [(.ref a1)])) rfl rfl (hb hby d10_26)
  refine own_go st6 ?_
  show WP p e below _ (T6.setTop (mkF m 29 #[.val (.ref a1), .val (.ref a2), .val (.ref a2)] [(.int (0 : Int32))]))
  refine own_go (fun t_ k => XS.aloadN X6.here hx rfl (hb hby d10_29) rfl rfl k) ?_
  show WP p e below _ (T6.setTop (mkF m 30 #[.val (.ref a1), .val (.ref a2), .val (.ref a2)] [(.ref a2), (.int (0 : Int32))]))
  obtain ⟨T7, X7, e7, st7⟩ := getF X6 hx hZ hown (host := "") (Or.inl (hw _ (List.mem_of_getElem? (i := 25) rfl))) Via.refl e6 Pf3 (g := (mkF m 30 #[.val (.ref a1), .val (.ref a2), .val (.ref a2)] [(.ref a2), (.int (0 : Int32))])) rfl rfl (hb hby d10_30)
  refine own_go st7 ?_
  show WP p e below _ (T7.setTop (mkF m 33 #[.val (.ref a1), .val (.ref a2), .val (.ref a2)] [(.int (0 : Int32)), (.int (0 : Int32))]))
  have hc33_8 : ((0 : Int32) = (0 : Int32)) := by decide
  refine own_go (fun t_ k => XS.icmpNo X7.here hx rfl (hb hby d10_33) rfl (teq hc33_8).2 k) ?_
  show WP p e below _ (T7.setTop (mkF m 36 #[.val (.ref a1), .val (.ref a2), .val (.ref a2)] []))
  refine own_go (fun t_ k => XS.aloadN X7.here hx rfl (hb hby d10_36) rfl rfl k) ?_
  show WP p e below _ (T7.setTop (mkF m 37 #[.val (.ref a1), .val (.ref a2), .val (.ref a2)] [(.ref a1)]))
  obtain ⟨T9, X9, e9, st9⟩ := getF X7 hx hZ hown (host := "") (Or.inl (hw _ (List.mem_of_getElem? (i := 24) rfl))) Via.refl e7 Pf4 (g := (mkF m 37 #[.val (.ref a1), .val (.ref a2), .val (.ref a2)] [(.ref a1)])) rfl rfl (hb hby d10_37)
  refine own_go st9 ?_
  show WP p e below _ (T9.setTop (mkF m 40 #[.val (.ref a1), .val (.ref a2), .val (.ref a2)] [(.ref b1)]))
  refine own_go (fun t_ k => XS.aloadN X9.here hx rfl (hb hby d10_40) rfl rfl k) ?_
  show WP p e below _ (T9.setTop (mkF m 41 #[.val (.ref a1), .val (.ref a2), .val (.ref a2)] [(.ref a2), (.ref b1)]))
  obtain ⟨T10, X10, e10, st10⟩ := getF X9 hx hZ hown (host := "") (Or.inl (hw _ (List.mem_of_getElem? (i := 24) rfl))) Via.refl e9 Pf5 (g := (mkF m 41 #[.val (.ref a1), .val (.ref a2), .val (.ref a2)] [(.ref a2), (.ref b1)])) rfl rfl (hb hby d10_41)
  refine own_go st10 ?_
  show WP p e below _ (T10.setTop (mkF m 44 #[.val (.ref a1), .val (.ref a2), .val (.ref a2)] [(.ref b2), (.ref b1)]))
  obtain ⟨_, T11, Lc11, X11, hQ11, st11⟩ := own_un X10 0 0 (Jvm.LawKit.callS X10 hx (y := (⟨"java/lang/StringLatin1", "equals", "([B[B)Z"⟩ : MethodName)) hown (mvT hZ (hw _ (List.mem_of_getElem? (i := 73) rfl))) (mvT hZ (hw _ (List.mem_of_getElem? (i := 74) rfl))) (mvT hZ (hw _ (List.mem_of_getElem? (i := 75) rfl))) (mvT hZ (hw _ (List.mem_of_getElem? (i := 76) rfl))) (by decide) (backOf (W := 0) (rmLe_2_2 l Z a0 hw [] b1 b2 k1 k2 u0 u1 w0 w1 h0 n0 Pf6 Pf7 ) hZ (hw _ (List.mem_of_getElem? (i := 76) rfl)) (hw _ (List.mem_of_getElem? (i := 75) rfl)) (by decide) (by decide)) (g := (mkF m 44 #[.val (.ref a1), .val (.ref a2), .val (.ref a2)] [(.ref b2), (.ref b1)])) rfl (by rw [hml]; rfl) (argsL := [(.ref b1), (.ref b2)]) (rest := []) (lenOf pd_6 rfl) rfl (by show 2 * 0 + _ ≤ _; exact Nat.le_of_eq rfl) (hb hby d10_44) (fun _ _ => ⟨rfl, e10, (by decide : 0 + 0 ≤ _), (by decide : 0 + 0 ≤ _)⟩))
  dsimp only [Pt.U] at st11
  have er11 : T11.heap = T11.heap := rfl
  obtain ⟨rfl, N11q, e11⟩ := hQ11
  have N11 := Fr.app N0 N11q
  replace X11 : Stand p l e ({ frames := 1, cells := 0, slots := 0, locals := 14 } : Room) s m _ below meth c T11 _ 0 0 := X11
  refine own_go st11 ?_
  show WP p e below _ (T11.setTop (mkF m 47 #[.val (.ref a1), .val (.ref a2), .val (.ref a2)] [(.int (f_rmLe_2_2 u0 u1 w0 w1))]))
  by_cases hc47_12 : (f_rmLe_2_2 u0 u1 w0 w1) = (0 : Int32)
  · refine own_go (fun t_ k => XS.ifYes X11.here hx rfl (pc0 := 47) (pc' := 54) rfl (hb hby d10_47) rfl ((if0 _ _).trans (teq hc47_12).1) (by decide) (by decide) k) ?_
    show WP p e below _ (T11.setTop (mkF m 54 #[.val (.ref a1), .val (.ref a2), .val (.ref a2)] []))
    refine own_go (fun t_ k => XS.iconst X11.here hx rfl (hb hby d10_54) k) ?_
    show WP p e below _ (T11.setTop (mkF m 55 #[.val (.ref a1), .val (.ref a2), .val (.ref a2)] [(.int (0 : Int32))]))
    exact own_retZ X11 hx Bd.notSynchronized Bd.returns (hb hby d10_55) (by decide) (⟨by rw [f_rmSe_2_2, if_pos hc47_12], N11, e11⟩) (by decide) (by decide)
  · refine own_go (fun t_ k => XS.ifNo X11.here hx rfl (hb hby d10_47) rfl ((if0 _ _).trans (feq hc47_12).1) k) ?_
    show WP p e below _ (T11.setTop (mkF m 50 #[.val (.ref a1), .val (.ref a2), .val (.ref a2)] []))
    refine own_go (fun t_ k => XS.iconst X11.here hx rfl (hb hby d10_50) k) ?_
    show WP p e below _ (T11.setTop (mkF m 51 #[.val (.ref a1), .val (.ref a2), .val (.ref a2)] [(.int (1 : Int32))]))
    refine own_go (fun t_ k => XS.goto X11.here hx rfl (pc0 := 51) (pc' := 55) rfl (hb hby d10_51) (by decide) (by decide) k) ?_
    show WP p e below _ (T11.setTop (mkF m 55 #[.val (.ref a1), .val (.ref a2), .val (.ref a2)] [(.int (1 : Int32))]))
    exact own_retZ X11 hx Bd.notSynchronized Bd.returns (hb hby d10_55) (by decide) (⟨by rw [f_rmSe_2_2, if_neg hc47_12], N11, e11⟩) (by decide) (by decide)
def Q_rmSs (Z : State) (a1 : Addr) (h0 : Heap) (n0 : Nat) (v : Option Value) (h : Heap) (L : List Loc) : Prop := v = some (.int (1 : Int32)) ∧ Fr n0 L ∧ h = h0
theorem d10_5 : decode jdk_42_method_66_code 5 = .ok (.iconst 1, 1) := by decide +kernel
theorem d10_6 : decode jdk_42_method_66_code 6 = .ok (.ireturn, 1) := by decide +kernel
theorem ef_rmSs (m : MethodId) (x0 : Addr) (x1 : Addr) : entryFrame m #[(.ref x0), (.ref x1)] 3 = mkF m 0 #[.val (.ref x0), .val (.ref x1), .unset] [] := by first | (simp [entryFrame, mkF, argsToLocals, Value.category]; done) | rfl
set_option maxRecDepth 65536 in
set_option maxHeartbeats 40000000 in
theorem rmSs (l : Launch) (Z : State) (a0 : Array Value) (hw : ∀ d ∈ tables_1, d.before a0 Z = true) (ws : List Jvm.Cond) (a1 : Addr) (h0 : Heap) (n0 : Nat) :
    MetFree l (⟨"java/lang/String", "equals", "(Ljava/lang/Object;)Z"⟩ : MethodName) (head1 (Jvm.Cond.code (⟨"java/lang/String", "equals", "(Ljava/lang/Object;)Z"⟩ : MethodName) jdk_42_method_66_code 3 (some .boolean) :: ws) ({ frames := 0, cells := 0, slots := 0, locals := 0 } : Room)) (fun a U => a = #[(.ref a1), (.ref a1)] ∧ Z.Warmed39 U.vm ∧ U.heap = h0) (fun _ _ _ _ _ => True) (fun _ U o U' => ∃ v L, o = .returned v ∧ (Q_rmSs Z a1 h0 n0) v U'.heap L ∧ FrameEnd U o U' L ({ frames := 0, cells := 0, slots := 0, locals := 0 } : Room).cells ({ frames := 0, cells := 0, slots := 0, locals := 0 } : Room).slots) := by
  refine MetFree.of_bodySF (plainFor_of_name pn_1) hisR ?_
  intro p e s m args below meth c s₁ Bd hml0 hP hK
  obtain ⟨rfl, hZ, hh⟩ := hP
  have hx := Bd.exec
  have hby := Bd.bytes
  have hml : c.maxLocals = 3 := hml0
  have hown : s.vm.findClass "java/lang/String" = some m.cls := findClass_of_methodNamed Bd.named
  have hnm := (name_of_methodNamed Bd.named Bd.method).1
  have X0 : Stand p l e ({ frames := 0, cells := 0, slots := 0, locals := 0 } : Room) s m #[(.ref a1), (.ref a1)] below meth c s₁ [] 0 0 := Stand.of_body Bd
  have e0 : s₁.heap = h0 := by rw [← hh, Bd.state]; rfl
  have N0 := Fr.nil n0
  show WP p e below (GG (Q_rmSs Z a1 h0 n0) s ({ frames := 0, cells := 0, slots := 0, locals := 0 } : Room).cells ({ frames := 0, cells := 0, slots := 0, locals := 0 } : Room).slots) (s₁.setTop (entryFrame m #[(.ref a1), (.ref a1)] 3))
  rw [ef_rmSs m a1 a1]
  show WP p e below _ (s₁.setTop (mkF m 0 #[.val (.ref a1), .val (.ref a1), .unset] []))
  refine own_go (fun t_ k => XS.aloadN X0.here hx rfl (hb hby d10_0) rfl rfl k) ?_
  show WP p e below _ (s₁.setTop (mkF m 1 #[.val (.ref a1), .val (.ref a1), .unset] [(.ref a1)]))
  refine own_go (fun t_ k => XS.aloadN X0.here hx rfl (hb hby d10_1) rfl rfl k) ?_
  show WP p e below _ (s₁.setTop (mkF m 2 #[.val (.ref a1), .val (.ref a1), .unset] [(.ref a1), (.ref a1)]))
  refine own_go (fun t_ k => Jvm.RoadKit.acmp (g := (mkF m 2 #[.val (.ref a1), .val (.ref a1), .unset] [(.ref a1), (.ref a1)])) X0 hx rfl rfl rfl (pc0 := 2) (pc' := 5) (same := true) rfl (hb hby d10_2) rfl (decide_eq_true rfl) (by decide) (by decide) k) ?_
  show WP p e below _ (s₁.setTop (mkF m 5 #[.val (.ref a1), .val (.ref a1), .unset] []))
  refine own_go (fun t_ k => XS.iconst X0.here hx rfl (hb hby d10_5) k) ?_
  show WP p e below _ (s₁.setTop (mkF m 6 #[.val (.ref a1), .val (.ref a1), .unset] [(.int (1 : Int32))]))
  exact own_retZ X0 hx Bd.notSynchronized Bd.returns (hb hby d10_6) (by decide) (⟨rfl, N0, e0⟩) (by decide) (by decide)
def Q_rmSe (xs ys : List Value) (h0 : Heap) (n0 : Nat) (v : Option Value) (h : Heap) (L : List Loc) : Prop := ∃ r : Int32, v = some (.int r) ∧ Fr n0 L ∧ h = h0 ∧ SE r xs ys
theorem own_se_0_0 (cs : Int32) : SE (f_rmSe_0_0 cs) [] [] := by
  simp only [SE, f_rmSe_0_0, f_rmLe_0_0]
  (repeat' split) <;> simp_all
theorem own_se_0_1 (w0 : Int32) (cs : Int32) : SE (f_rmSe_0_1 w0 cs) [] [.int w0] := by
  simp only [SE, f_rmSe_0_1, f_rmLe_0_1]
  (repeat' split) <;> simp_all
theorem own_se_0_2 (w0 : Int32) (w1 : Int32) (cs : Int32) : SE (f_rmSe_0_2 w0 w1 cs) [] [.int w0, .int w1] := by
  simp only [SE, f_rmSe_0_2, f_rmLe_0_2]
  (repeat' split) <;> simp_all
theorem own_se_1_0 (u0 : Int32) (cs : Int32) : SE (f_rmSe_1_0 u0 cs) [.int u0] [] := by
  simp only [SE, f_rmSe_1_0, f_rmLe_1_0]
  (repeat' split) <;> simp_all
theorem own_se_1_1 (u0 : Int32) (w0 : Int32) (cs : Int32) : SE (f_rmSe_1_1 u0 w0 cs) [.int u0] [.int w0] := by
  simp only [SE, f_rmSe_1_1, f_rmLe_1_1]
  (repeat' split) <;> simp_all
theorem own_se_1_2 (u0 : Int32) (w0 : Int32) (w1 : Int32) (cs : Int32) : SE (f_rmSe_1_2 u0 w0 w1 cs) [.int u0] [.int w0, .int w1] := by
  simp only [SE, f_rmSe_1_2, f_rmLe_1_2]
  (repeat' split) <;> simp_all
theorem own_se_2_0 (u0 : Int32) (u1 : Int32) (cs : Int32) : SE (f_rmSe_2_0 u0 u1 cs) [.int u0, .int u1] [] := by
  simp only [SE, f_rmSe_2_0, f_rmLe_2_0]
  (repeat' split) <;> simp_all
theorem own_se_2_1 (u0 : Int32) (u1 : Int32) (w0 : Int32) (cs : Int32) : SE (f_rmSe_2_1 u0 u1 w0 cs) [.int u0, .int u1] [.int w0] := by
  simp only [SE, f_rmSe_2_1, f_rmLe_2_1]
  (repeat' split) <;> simp_all
theorem own_se_2_2 (u0 : Int32) (u1 : Int32) (w0 : Int32) (w1 : Int32) (cs : Int32) : SE (f_rmSe_2_2 u0 u1 w0 w1 cs) [.int u0, .int u1] [.int w0, .int w1] := by
  simp only [SE, f_rmSe_2_2, f_rmLe_2_2]
  (repeat' split) <;> simp_all
theorem rmSe (l : Launch) (Z : State) (a0 : Array Value) (hw : ∀ d ∈ tables_1, d.before a0 Z = true) (ws : List Jvm.Cond) (a1 a2 b1 b2 : Addr) (k1 k2 : ClassId) (n1 n2 : Int32) (xs ys : List Value) (cs : Int32) (h0 : Heap) (n0 : Nat) (E2 : Exa Z h0 a2 "java/lang/String") (Sc : Sta Z h0 "java/lang/String" "COMPACT_STRINGS" "Z" (.int cs)) (c1 : Fld Z h0 a1 "java/lang/String" "coder" "B" (.int (0 : Int32))) (c2 : Fld Z h0 a2 "java/lang/String" "coder" "B" (.int (0 : Int32))) (v1 : Fld Z h0 a1 "java/lang/String" "value" "[B" (.ref b1)) (v2 : Fld Z h0 a2 "java/lang/String" "value" "[B" (.ref b2)) (A1 : Arv Z h0 b1 k1 .byte n1 xs (.int (0 : Int32))) (A2 : Arv Z h0 b2 k2 .byte n2 ys (.int (0 : Int32))) (hne : a1 ≠ a2) (hcs : ¬ cs = (0 : Int32)) (L1 : SL n1 xs) (L2 : SL n2 ys) :
    MetFree l (⟨"java/lang/String", "equals", "(Ljava/lang/Object;)Z"⟩ : MethodName) (head1 (Jvm.Cond.code (⟨"java/lang/String", "equals", "(Ljava/lang/Object;)Z"⟩ : MethodName) jdk_42_method_66_code 3 (some .boolean) :: ws) ({ frames := 1, cells := 0, slots := 0, locals := 14 } : Room)) (fun a U => a = #[(.ref a1), (.ref a2)] ∧ Z.Warmed39 U.vm ∧ U.heap = h0) (fun _ _ _ _ _ => True) (fun _ U o U' => ∃ v L, o = .returned v ∧ (Q_rmSe xs ys h0 n0) v U'.heap L ∧ FrameEnd U o U' L ({ frames := 1, cells := 0, slots := 0, locals := 14 } : Room).cells ({ frames := 1, cells := 0, slots := 0, locals := 14 } : Room).slots) := by
  rcases L1 with ⟨rfl, rfl⟩ | ⟨u0, rfl, rfl⟩ | ⟨u0, u1, rfl, rfl⟩ <;> rcases L2 with ⟨rfl, rfl⟩ | ⟨w0, rfl, rfl⟩ | ⟨w0, w1, rfl, rfl⟩
  · exact (rmSe_0_0 l Z a0 hw ws a1 a2 b1 b2 k1 k2  cs h0 n0 E2 Sc c1 c2 v1 v2 A1 A2 hne hcs).imp (fun a U o U' => by rintro ⟨v, L, h1, ⟨q1, q2, q3⟩, h3⟩; exact ⟨v, L, h1, ⟨_, q1, q2, q3, own_se_0_0 cs⟩, h3⟩)
  · exact (rmSe_0_1 l Z a0 hw ws a1 a2 b1 b2 k1 k2 w0 cs h0 n0 E2 Sc c1 c2 v1 v2 A1 A2 hne hcs).imp (fun a U o U' => by rintro ⟨v, L, h1, ⟨q1, q2, q3⟩, h3⟩; exact ⟨v, L, h1, ⟨_, q1, q2, q3, own_se_0_1 w0 cs⟩, h3⟩)
  · exact (rmSe_0_2 l Z a0 hw ws a1 a2 b1 b2 k1 k2 w0 w1 cs h0 n0 E2 Sc c1 c2 v1 v2 A1 A2 hne hcs).imp (fun a U o U' => by rintro ⟨v, L, h1, ⟨q1, q2, q3⟩, h3⟩; exact ⟨v, L, h1, ⟨_, q1, q2, q3, own_se_0_2 w0 w1 cs⟩, h3⟩)
  · exact (rmSe_1_0 l Z a0 hw ws a1 a2 b1 b2 k1 k2 u0 cs h0 n0 E2 Sc c1 c2 v1 v2 A1 A2 hne hcs).imp (fun a U o U' => by rintro ⟨v, L, h1, ⟨q1, q2, q3⟩, h3⟩; exact ⟨v, L, h1, ⟨_, q1, q2, q3, own_se_1_0 u0 cs⟩, h3⟩)
  · exact (rmSe_1_1 l Z a0 hw ws a1 a2 b1 b2 k1 k2 u0 w0 cs h0 n0 E2 Sc c1 c2 v1 v2 A1 A2 hne hcs).imp (fun a U o U' => by rintro ⟨v, L, h1, ⟨q1, q2, q3⟩, h3⟩; exact ⟨v, L, h1, ⟨_, q1, q2, q3, own_se_1_1 u0 w0 cs⟩, h3⟩)
  · exact (rmSe_1_2 l Z a0 hw ws a1 a2 b1 b2 k1 k2 u0 w0 w1 cs h0 n0 E2 Sc c1 c2 v1 v2 A1 A2 hne hcs).imp (fun a U o U' => by rintro ⟨v, L, h1, ⟨q1, q2, q3⟩, h3⟩; exact ⟨v, L, h1, ⟨_, q1, q2, q3, own_se_1_2 u0 w0 w1 cs⟩, h3⟩)
  · exact (rmSe_2_0 l Z a0 hw ws a1 a2 b1 b2 k1 k2 u0 u1 cs h0 n0 E2 Sc c1 c2 v1 v2 A1 A2 hne hcs).imp (fun a U o U' => by rintro ⟨v, L, h1, ⟨q1, q2, q3⟩, h3⟩; exact ⟨v, L, h1, ⟨_, q1, q2, q3, own_se_2_0 u0 u1 cs⟩, h3⟩)
  · exact (rmSe_2_1 l Z a0 hw ws a1 a2 b1 b2 k1 k2 u0 u1 w0 cs h0 n0 E2 Sc c1 c2 v1 v2 A1 A2 hne hcs).imp (fun a U o U' => by rintro ⟨v, L, h1, ⟨q1, q2, q3⟩, h3⟩; exact ⟨v, L, h1, ⟨_, q1, q2, q3, own_se_2_1 u0 u1 w0 cs⟩, h3⟩)
  · exact (rmSe_2_2 l Z a0 hw ws a1 a2 b1 b2 k1 k2 u0 u1 w0 w1 cs h0 n0 E2 Sc c1 c2 v1 v2 A1 A2 hne hcs).imp (fun a U o U' => by rintro ⟨v, L, h1, ⟨q1, q2, q3⟩, h3⟩; exact ⟨v, L, h1, ⟨_, q1, q2, q3, own_se_2_2 u0 u1 w0 w1 cs⟩, h3⟩)
def EQ5 (r : Int32) (kd1 kd2 : Addr) (xnu1 xnu2 xhe1 xhe2 : List Value) (li1 li2 co1 co2 : Int32) : Prop := (r = (0 : Int32) ∨ r = (1 : Int32)) ∧ (r = (1 : Int32) ↔ (kd1 = kd2 ∧ xnu1 = xnu2 ∧ xhe1 = xhe2 ∧ li1 = li2 ∧ co1 = co2))
def Q_rm9 (Z : State) (a1 : Addr) (a2 : Addr) (kd1 : Addr) (nu1 : Addr) (he1 : Addr) (kd2 : Addr) (nu2 : Addr) (he2 : Addr) (li1 : Int32) (co1 : Int32) (li2 : Int32) (co2 : Int32) (bnu1 : Addr) (knu1 : ClassId) (nnu1 : Int32) (xnu1 : List Value) (bnu2 : Addr) (knu2 : ClassId) (nnu2 : Int32) (xnu2 : List Value) (bhe1 : Addr) (khe1 : ClassId) (nhe1 : Int32) (xhe1 : List Value) (bhe2 : Addr) (khe2 : ClassId) (nhe2 : Int32) (xhe2 : List Value) (cs : Int32) (h0 : Heap) (n0 : Nat) (v : Option Value) (h : Heap) (L : List Loc) : Prop := ∃ r : Int32, v = some (.int r) ∧ Fr n0 L ∧ h = h0 ∧ EQ5 r kd1 kd2 xnu1 xnu2 xhe1 xhe2 li1 li2 co1 co2
theorem pd_7 : parseMethodDescriptor "(Ljava/lang/Object;)Z" = some ⟨[(.object "java/lang/Object")], some .boolean⟩ := by decide +kernel
theorem own_e9_1 {kd1 kd2 : Addr} {xnu1 xnu2 xhe1 xhe2 : List Value} {li1 li2 co1 co2 : Int32} {r9 : Int32} (SE9 : SE r9 xnu1 xnu2) (ha20_6 : (kd1 = kd2)) (hc34_10 : (r9 = (0 : Int32))) : EQ5 (0 : Int32) kd1 kd2 xnu1 xnu2 xhe1 xhe2 li1 li2 co1 co2 := by
  have qSE9 := SE.nz SE9
  clear SE9
  simp only [EQ5]
  simp_all
theorem own_e9_2 {kd1 kd2 : Addr} {xnu1 xnu2 xhe1 xhe2 : List Value} {li1 li2 co1 co2 : Int32} {r9 r13 : Int32} (SE9 : SE r9 xnu1 xnu2) (SE13 : SE r13 xhe1 xhe2) (ha20_6 : (kd1 = kd2)) (hc34_10 : ¬ (r9 = (0 : Int32))) (hc48_14 : (r13 = (0 : Int32))) : EQ5 (0 : Int32) kd1 kd2 xnu1 xnu2 xhe1 xhe2 li1 li2 co1 co2 := by
  have qSE9 := SE.nz SE9
  clear SE9
  have qSE13 := SE.nz SE13
  clear SE13
  simp only [EQ5]
  simp_all
theorem own_e9_3 {kd1 kd2 : Addr} {xnu1 xnu2 xhe1 xhe2 : List Value} {li1 li2 co1 co2 : Int32} {r9 r13 : Int32} (SE9 : SE r9 xnu1 xnu2) (SE13 : SE r13 xhe1 xhe2) (ha20_6 : (kd1 = kd2)) (hc34_10 : ¬ (r9 = (0 : Int32))) (hc48_14 : ¬ (r13 = (0 : Int32))) (hc59_17 : (li1 = li2)) (hc70_20 : (co1 = co2)) : EQ5 (1 : Int32) kd1 kd2 xnu1 xnu2 xhe1 xhe2 li1 li2 co1 co2 := by
  have qSE9 := SE.nz SE9
  clear SE9
  have qSE13 := SE.nz SE13
  clear SE13
  simp only [EQ5]
  simp_all
theorem own_e9_4 {kd1 kd2 : Addr} {xnu1 xnu2 xhe1 xhe2 : List Value} {li1 li2 co1 co2 : Int32} {r9 r13 : Int32} (SE9 : SE r9 xnu1 xnu2) (SE13 : SE r13 xhe1 xhe2) (ha20_6 : (kd1 = kd2)) (hc34_10 : ¬ (r9 = (0 : Int32))) (hc48_14 : ¬ (r13 = (0 : Int32))) (hc59_17 : (li1 = li2)) (hc70_20 : ¬ (co1 = co2)) : EQ5 (0 : Int32) kd1 kd2 xnu1 xnu2 xhe1 xhe2 li1 li2 co1 co2 := by
  have qSE9 := SE.nz SE9
  clear SE9
  have qSE13 := SE.nz SE13
  clear SE13
  simp only [EQ5]
  simp_all
theorem own_e9_5 {kd1 kd2 : Addr} {xnu1 xnu2 xhe1 xhe2 : List Value} {li1 li2 co1 co2 : Int32} {r9 r13 : Int32} (SE9 : SE r9 xnu1 xnu2) (SE13 : SE r13 xhe1 xhe2) (ha20_6 : (kd1 = kd2)) (hc34_10 : ¬ (r9 = (0 : Int32))) (hc48_14 : ¬ (r13 = (0 : Int32))) (hc59_17 : ¬ (li1 = li2)) : EQ5 (0 : Int32) kd1 kd2 xnu1 xnu2 xhe1 xhe2 li1 li2 co1 co2 := by
  have qSE9 := SE.nz SE9
  clear SE9
  have qSE13 := SE.nz SE13
  clear SE13
  simp only [EQ5]
  simp_all
theorem own_e9_6 {kd1 kd2 : Addr} {xnu1 xnu2 xhe1 xhe2 : List Value} {li1 li2 co1 co2 : Int32} {rr_ : Int32}  (ha20_6 : ¬ (kd1 = kd2)) : EQ5 (0 : Int32) kd1 kd2 xnu1 xnu2 xhe1 xhe2 li1 li2 co1 co2 := by
  simp only [EQ5]
  simp_all
theorem d9_0 : decode prog_34_method_7_code 0 = .ok (.aload_n 1, 1) := by decide +kernel
theorem d9_1 : decode prog_34_method_7_code 1 = .ok (.instanceof 16, 3) := by decide +kernel
theorem d9_4 : decode prog_34_method_7_code 4 = .ok (.ifCond .eq 73, 3) := by decide +kernel
theorem d9_7 : decode prog_34_method_7_code 7 = .ok (.aload_n 1, 1) := by decide +kernel
theorem d9_8 : decode prog_34_method_7_code 8 = .ok (.checkcast 16, 3) := by decide +kernel
theorem d9_11 : decode prog_34_method_7_code 11 = .ok (.astore_n 2, 1) := by decide +kernel
theorem d9_12 : decode prog_34_method_7_code 12 = .ok (.aload_n 0, 1) := by decide +kernel
theorem d9_13 : decode prog_34_method_7_code 13 = .ok (.getfield 15, 3) := by decide +kernel
theorem d9_16 : decode prog_34_method_7_code 16 = .ok (.aload_n 2, 1) := by decide +kernel
theorem d9_17 : decode prog_34_method_7_code 17 = .ok (.getfield 15, 3) := by decide +kernel
theorem d9_20 : decode prog_34_method_7_code 20 = .ok (.if_acmp .ne 57, 3) := by decide +kernel
theorem d9_23 : decode prog_34_method_7_code 23 = .ok (.aload_n 0, 1) := by decide +kernel
theorem d9_24 : decode prog_34_method_7_code 24 = .ok (.getfield 23, 3) := by decide +kernel
theorem d9_27 : decode prog_34_method_7_code 27 = .ok (.aload_n 2, 1) := by decide +kernel
theorem d9_28 : decode prog_34_method_7_code 28 = .ok (.getfield 23, 3) := by decide +kernel
theorem d9_31 : decode prog_34_method_7_code 31 = .ok (.invokevirtual 37, 3) := by decide +kernel
theorem d9_34 : decode prog_34_method_7_code 34 = .ok (.ifCond .eq 43, 3) := by decide +kernel
theorem d9_37 : decode prog_34_method_7_code 37 = .ok (.aload_n 0, 1) := by decide +kernel
theorem d9_38 : decode prog_34_method_7_code 38 = .ok (.getfield 27, 3) := by decide +kernel
theorem d9_41 : decode prog_34_method_7_code 41 = .ok (.aload_n 2, 1) := by decide +kernel
theorem d9_42 : decode prog_34_method_7_code 42 = .ok (.getfield 27, 3) := by decide +kernel
theorem d9_45 : decode prog_34_method_7_code 45 = .ok (.invokevirtual 37, 3) := by decide +kernel
theorem d9_48 : decode prog_34_method_7_code 48 = .ok (.ifCond .eq 29, 3) := by decide +kernel
theorem d9_51 : decode prog_34_method_7_code 51 = .ok (.aload_n 0, 1) := by decide +kernel
theorem d9_52 : decode prog_34_method_7_code 52 = .ok (.getfield 30, 3) := by decide +kernel
theorem d9_55 : decode prog_34_method_7_code 55 = .ok (.aload_n 2, 1) := by decide +kernel
theorem d9_56 : decode prog_34_method_7_code 56 = .ok (.getfield 30, 3) := by decide +kernel
theorem d9_59 : decode prog_34_method_7_code 59 = .ok (.if_icmp .ne 18, 3) := by decide +kernel
theorem d9_62 : decode prog_34_method_7_code 62 = .ok (.aload_n 0, 1) := by decide +kernel
theorem d9_63 : decode prog_34_method_7_code 63 = .ok (.getfield 34, 3) := by decide +kernel
theorem d9_66 : decode prog_34_method_7_code 66 = .ok (.aload_n 2, 1) := by decide +kernel
theorem d9_67 : decode prog_34_method_7_code 67 = .ok (.getfield 34, 3) := by decide +kernel
theorem d9_70 : decode prog_34_method_7_code 70 = .ok (.if_icmp .ne 7, 3) := by decide +kernel
theorem d9_73 : decode prog_34_method_7_code 73 = .ok (.iconst 1, 1) := by decide +kernel
theorem d9_74 : decode prog_34_method_7_code 74 = .ok (.goto 4, 3) := by decide +kernel
theorem d9_77 : decode prog_34_method_7_code 77 = .ok (.iconst 0, 1) := by decide +kernel
theorem d9_78 : decode prog_34_method_7_code 78 = .ok (.ireturn, 1) := by decide +kernel
theorem ef_rm9 (m : MethodId) (x0 : Addr) (x1 : Addr) : entryFrame m #[(.ref x0), (.ref x1)] 3 = mkF m 0 #[.val (.ref x0), .val (.ref x1), .unset] [] := by first | (simp [entryFrame, mkF, argsToLocals, Value.category]; done) | rfl
set_option maxRecDepth 65536 in
set_option maxHeartbeats 40000000 in
theorem rm9 (l : Launch) (Z : State) (a0 : Array Value) (hw : ∀ d ∈ tables_1, d.before a0 Z = true) (ws : List Jvm.Cond) (a1 : Addr) (a2 : Addr) (kd1 : Addr) (nu1 : Addr) (he1 : Addr) (kd2 : Addr) (nu2 : Addr) (he2 : Addr) (li1 : Int32) (co1 : Int32) (li2 : Int32) (co2 : Int32) (bnu1 : Addr) (knu1 : ClassId) (nnu1 : Int32) (xnu1 : List Value) (bnu2 : Addr) (knu2 : ClassId) (nnu2 : Int32) (xnu2 : List Value) (bhe1 : Addr) (khe1 : ClassId) (nhe1 : Int32) (xhe1 : List Value) (bhe2 : Addr) (khe2 : ClassId) (nhe2 : Int32) (xhe2 : List Value) (cs : Int32) (h0 : Heap) (n0 : Nat) (Pf0 : Exa Z h0 a1 "com/example/covenant_atlas/covenantatlas/model/OutlineEntry") (Pf1 : Fld Z h0 a1 "com/example/covenant_atlas/covenantatlas/model/OutlineEntry" "kind" "Lcom/example/covenant_atlas/covenantatlas/model/PartKind;" (.ref kd1)) (Pf2 : Fld Z h0 a1 "com/example/covenant_atlas/covenantatlas/model/OutlineEntry" "number" "Ljava/lang/String;" (.ref nu1)) (Pf3 : Fld Z h0 a1 "com/example/covenant_atlas/covenantatlas/model/OutlineEntry" "heading" "Ljava/lang/String;" (.ref he1)) (Pf4 : Fld Z h0 a1 "com/example/covenant_atlas/covenantatlas/model/OutlineEntry" "line" "I" (.int li1)) (Pf5 : Fld Z h0 a1 "com/example/covenant_atlas/covenantatlas/model/OutlineEntry" "column" "I" (.int co1)) (Pf6 : Exa Z h0 a2 "com/example/covenant_atlas/covenantatlas/model/OutlineEntry") (Pf7 : Fld Z h0 a2 "com/example/covenant_atlas/covenantatlas/model/OutlineEntry" "kind" "Lcom/example/covenant_atlas/covenantatlas/model/PartKind;" (.ref kd2)) (Pf8 : Fld Z h0 a2 "com/example/covenant_atlas/covenantatlas/model/OutlineEntry" "number" "Ljava/lang/String;" (.ref nu2)) (Pf9 : Fld Z h0 a2 "com/example/covenant_atlas/covenantatlas/model/OutlineEntry" "heading" "Ljava/lang/String;" (.ref he2)) (Pf10 : Fld Z h0 a2 "com/example/covenant_atlas/covenantatlas/model/OutlineEntry" "line" "I" (.int li2)) (Pf11 : Fld Z h0 a2 "com/example/covenant_atlas/covenantatlas/model/OutlineEntry" "column" "I" (.int co2)) (Pf12 : Exa Z h0 nu1 "java/lang/String") (Pf13 : Fld Z h0 nu1 "java/lang/String" "coder" "B" (.int (0 : Int32))) (Pf14 : Fld Z h0 nu1 "java/lang/String" "value" "[B" (.ref bnu1)) (Pf15 : Arv Z h0 bnu1 knu1 .byte nnu1 xnu1 (.int (0 : Int32))) (Pf16 : Exa Z h0 nu2 "java/lang/String") (Pf17 : Fld Z h0 nu2 "java/lang/String" "coder" "B" (.int (0 : Int32))) (Pf18 : Fld Z h0 nu2 "java/lang/String" "value" "[B" (.ref bnu2)) (Pf19 : Arv Z h0 bnu2 knu2 .byte nnu2 xnu2 (.int (0 : Int32))) (Pf20 : Exa Z h0 he1 "java/lang/String") (Pf21 : Fld Z h0 he1 "java/lang/String" "coder" "B" (.int (0 : Int32))) (Pf22 : Fld Z h0 he1 "java/lang/String" "value" "[B" (.ref bhe1)) (Pf23 : Arv Z h0 bhe1 khe1 .byte nhe1 xhe1 (.int (0 : Int32))) (Pf24 : Exa Z h0 he2 "java/lang/String") (Pf25 : Fld Z h0 he2 "java/lang/String" "coder" "B" (.int (0 : Int32))) (Pf26 : Fld Z h0 he2 "java/lang/String" "value" "[B" (.ref bhe2)) (Pf27 : Arv Z h0 bhe2 khe2 .byte nhe2 xhe2 (.int (0 : Int32))) (Pf28 : Sta Z h0 "java/lang/String" "COMPACT_STRINGS" "Z" (.int cs)) (n12 : nu1 ≠ nu2) (h12 : he1 ≠ he2) (hcs : ¬ cs = (0 : Int32)) (L1 : SL nnu1 xnu1) (L2 : SL nnu2 xnu2) (L3 : SL nhe1 xhe1) (L4 : SL nhe2 xhe2) :
    MetFree l (⟨"com/example/covenant_atlas/covenantatlas/model/OutlineEntry", "equals", "(Ljava/lang/Object;)Z"⟩ : MethodName) (head1 (Jvm.Cond.code (⟨"com/example/covenant_atlas/covenantatlas/model/OutlineEntry", "equals", "(Ljava/lang/Object;)Z"⟩ : MethodName) prog_34_method_7_code 3 (some .boolean) :: ws) ({ frames := 2, cells := 0, slots := 0, locals := 28 } : Room)) (fun a U => a = #[(.ref a1), (.ref a2)] ∧ Z.Warmed39 U.vm ∧ U.heap = h0) (fun _ _ _ _ _ => True) (fun _ U o U' => ∃ v L, o = .returned v ∧ (Q_rm9 Z a1 a2 kd1 nu1 he1 kd2 nu2 he2 li1 co1 li2 co2 bnu1 knu1 nnu1 xnu1 bnu2 knu2 nnu2 xnu2 bhe1 khe1 nhe1 xhe1 bhe2 khe2 nhe2 xhe2 cs h0 n0) v U'.heap L ∧ FrameEnd U o U' L ({ frames := 2, cells := 0, slots := 0, locals := 28 } : Room).cells ({ frames := 2, cells := 0, slots := 0, locals := 28 } : Room).slots) := by
  refine MetFree.of_bodySF (plainFor_of_name pn_4) hisR ?_
  intro p e s m args below meth c s₁ Bd hml0 hP hK
  obtain ⟨rfl, hZ, hh⟩ := hP
  have hx := Bd.exec
  have hby := Bd.bytes
  have hml : c.maxLocals = 3 := hml0
  have hown : s.vm.findClass "com/example/covenant_atlas/covenantatlas/model/OutlineEntry" = some m.cls := findClass_of_methodNamed Bd.named
  have hnm := (name_of_methodNamed Bd.named Bd.method).1
  have X0 : Stand p l e ({ frames := 2, cells := 0, slots := 0, locals := 28 } : Room) s m #[(.ref a1), (.ref a2)] below meth c s₁ [] 0 0 := Stand.of_body Bd
  have e0 : s₁.heap = h0 := by rw [← hh, Bd.state]; rfl
  have N0 := Fr.nil n0
  show WP p e below (GG (Q_rm9 Z a1 a2 kd1 nu1 he1 kd2 nu2 he2 li1 co1 li2 co2 bnu1 knu1 nnu1 xnu1 bnu2 knu2 nnu2 xnu2 bhe1 khe1 nhe1 xhe1 bhe2 khe2 nhe2 xhe2 cs h0 n0) s ({ frames := 2, cells := 0, slots := 0, locals := 28 } : Room).cells ({ frames := 2, cells := 0, slots := 0, locals := 28 } : Room).slots) (s₁.setTop (entryFrame m #[(.ref a1), (.ref a2)] 3))
  rw [ef_rm9 m a1 a2]
  show WP p e below _ (s₁.setTop (mkF m 0 #[.val (.ref a1), .val (.ref a2), .unset] []))
  refine own_go (fun t_ k => XS.aloadN X0.here hx rfl (hb hby d9_0) rfl rfl k) ?_
  show WP p e below _ (s₁.setTop (mkF m 1 #[.val (.ref a1), .val (.ref a2), .unset] [(.ref a2)]))
  obtain ⟨T1, X1, e1, st1⟩ := instY X0 hx hZ hown (hw _ (List.mem_of_getElem? (i := 64) rfl)) e0 (Ins.of_exa Pf6 (hw _ (List.mem_of_getElem? (i := 65) rfl))) (g := (mkF m 1 #[.val (.ref a1), .val (.ref a2), .unset] [(.ref a2)])) rfl rfl (hb hby d9_1)
  refine own_go st1 ?_
  show WP p e below _ (T1.setTop (mkF m 4 #[.val (.ref a1), .val (.ref a2), .unset] [(.int (1 : Int32))]))
  have hc4_2 : ¬ ((1 : Int32) = (0 : Int32)) := by decide
  refine own_go (fun t_ k => XS.ifNo X1.here hx rfl (hb hby d9_4) rfl ((if0 _ _).trans (feq hc4_2).1) k) ?_
  show WP p e below _ (T1.setTop (mkF m 7 #[.val (.ref a1), .val (.ref a2), .unset] []))
  refine own_go (fun t_ k => XS.aloadN X1.here hx rfl (hb hby d9_7) rfl rfl k) ?_
  show WP p e below _ (T1.setTop (mkF m 8 #[.val (.ref a1), .val (.ref a2), .unset] [(.ref a2)]))
  obtain ⟨T3, X3, e3, st3⟩ := castY X1 hx hZ hown (hw _ (List.mem_of_getElem? (i := 64) rfl)) e1 (Ins.of_exa Pf6 (hw _ (List.mem_of_getElem? (i := 65) rfl))) (g := (mkF m 8 #[.val (.ref a1), .val (.ref a2), .unset] [(.ref a2)])) rfl rfl (hb hby d9_8)
  refine own_go st3 ?_
  show WP p e below _ (T3.setTop (mkF m 11 #[.val (.ref a1), .val (.ref a2), .unset] [(.ref a2)]))
  refine own_go (fun t_ k => XS.astoreN X3.here hx rfl (hb hby d9_11) rfl rfl (l' := #[.val (.ref a1), .val (.ref a2), .val (.ref a2)]) rfl k) ?_
  show WP p e below _ (T3.setTop (mkF m 12 #[.val (.ref a1), .val (.ref a2), .val (.ref a2)] []))
  refine own_go (fun t_ k => XS.aloadN X3.here hx rfl (hb hby d9_12) rfl rfl k) ?_
  show WP p e below _ (T3.setTop (mkF m 13 #[.val (.ref a1), .val (.ref a2), .val (.ref a2)] [(.ref a1)]))
  obtain ⟨T4, X4, e4, st4⟩ := getF X3 hx hZ hown (host := "") (Or.inl (hw _ (List.mem_of_getElem? (i := 45) rfl))) Via.refl e3 Pf1 (g := (mkF m 13 #[.val (.ref a1), .val (.ref a2), .val (.ref a2)] [(.ref a1)])) rfl rfl (hb hby d9_13)
  refine own_go st4 ?_
  show WP p e below _ (T4.setTop (mkF m 16 #[.val (.ref a1), .val (.ref a2), .val (.ref a2)] [(.ref kd1)]))
  refine own_go (fun t_ k => XS.aloadN X4.here hx rfl (hb hby d9_16) rfl rfl k) ?_
  show WP p e below _ (T4.setTop (mkF m 17 #[.val (.ref a1), .val (.ref a2), .val (.ref a2)] [(.ref a2), (.ref kd1)]))
  obtain ⟨T5, X5, e5, st5⟩ := getF X4 hx hZ hown (host := "") (Or.inl (hw _ (List.mem_of_getElem? (i := 45) rfl))) Via.refl e4 Pf7 (g := (mkF m 17 #[.val (.ref a1), .val (.ref a2), .val (.ref a2)] [(.ref a2), (.ref kd1)])) rfl rfl (hb hby d9_17)
  refine own_go st5 ?_
  show WP p e below _ (T5.setTop (mkF m 20 #[.val (.ref a1), .val (.ref a2), .val (.ref a2)] [(.ref kd2), (.ref kd1)]))
  by_cases ha20_6 : kd1 = kd2
  · refine own_go (fun t_ k => Jvm.RoadKit.acmp (g := (mkF m 20 #[.val (.ref a1), .val (.ref a2), .val (.ref a2)] [(.ref kd2), (.ref kd1)])) X5 hx rfl rfl rfl (pc0 := 20) (pc' := 23) (same := true) rfl (hb hby d9_20) rfl (decide_eq_true (congrArg Value.ref ha20_6)) (by decide) (by decide) k) ?_
    show WP p e below _ (T5.setTop (mkF m 23 #[.val (.ref a1), .val (.ref a2), .val (.ref a2)] []))
    refine own_go (fun t_ k => XS.aloadN X5.here hx rfl (hb hby d9_23) rfl rfl k) ?_
    show WP p e below _ (T5.setTop (mkF m 24 #[.val (.ref a1), .val (.ref a2), .val (.ref a2)] [(.ref a1)]))
    obtain ⟨T7, X7, e7, st7⟩ := getF X5 hx hZ hown (host := "") (Or.inl (hw _ (List.mem_of_getElem? (i := 48) rfl))) Via.refl e5 Pf2 (g := (mkF m 24 #[.val (.ref a1), .val (.ref a2), .val (.ref a2)] [(.ref a1)])) rfl rfl (hb hby d9_24)
    refine own_go st7 ?_
    show WP p e below _ (T7.setTop (mkF m 27 #[.val (.ref a1), .val (.ref a2), .val (.ref a2)] [(.ref nu1)]))
    refine own_go (fun t_ k => XS.aloadN X7.here hx rfl (hb hby d9_27) rfl rfl k) ?_
    show WP p e below _ (T7.setTop (mkF m 28 #[.val (.ref a1), .val (.ref a2), .val (.ref a2)] [(.ref a2), (.ref nu1)]))
    obtain ⟨T8, X8, e8, st8⟩ := getF X7 hx hZ hown (host := "") (Or.inl (hw _ (List.mem_of_getElem? (i := 48) rfl))) Via.refl e7 Pf8 (g := (mkF m 28 #[.val (.ref a1), .val (.ref a2), .val (.ref a2)] [(.ref a2), (.ref nu1)])) rfl rfl (hb hby d9_28)
    refine own_go st8 ?_
    show WP p e below _ (T8.setTop (mkF m 31 #[.val (.ref a1), .val (.ref a2), .val (.ref a2)] [(.ref nu2), (.ref nu1)]))
    obtain ⟨cq9, kq9, q9a, q9b, q9c⟩ := isOf (T := T8) hZ e8 Pf12
    obtain ⟨_, T9, Lc9, X9, hQ9, st9⟩ := own_un X8 0 0 (X8.virtualBack hx (y := (⟨"java/lang/String", "equals", "(Ljava/lang/Object;)Z"⟩ : MethodName)) (z := (⟨"java/lang/String", "equals", "(Ljava/lang/Object;)Z"⟩ : MethodName)) hown (mvT hZ (hw _ (List.mem_of_getElem? (i := 66) rfl))) (mvT hZ (hw _ (List.mem_of_getElem? (i := 67) rfl))) (notFace_of_selects (args := #[]) (mvT hZ (hw _ (List.mem_of_getElem? (i := 69) rfl)))) (mvT hZ (hw _ (List.mem_of_getElem? (i := 69) rfl))) (mvT hZ (hw _ (List.mem_of_getElem? (i := 68) rfl))) (by decide) (backOf (W := 0) (rmSe l Z a0 hw [] nu1 nu2 bnu1 bnu2 knu1 knu2 nnu1 nnu2 xnu1 xnu2 cs h0 n0 Pf16 Pf28 Pf13 Pf17 Pf14 Pf18 Pf15 Pf19 n12 hcs L1 L2) hZ (hw _ (List.mem_of_getElem? (i := 70) rfl)) (hw _ (List.mem_of_getElem? (i := 6) rfl)) (by decide) (by decide)) q9a q9c (g := (mkF m 31 #[.val (.ref a1), .val (.ref a2), .val (.ref a2)] [(.ref nu2), (.ref nu1)])) rfl (by rw [hml]; rfl) (Steps.refl _) (argsL := [(.ref nu2)]) (rest := []) (lenOf pd_7 rfl) rfl (by show 2 * 0 + _ ≤ _; exact Nat.le_of_eq rfl) (hb hby d9_31) (fun _ _ => ⟨rfl, e8, (by decide : 0 + 0 ≤ _), (by decide : 0 + 0 ≤ _)⟩))
    dsimp only [Pt.U] at st9
    have er9 : T9.heap = T9.heap := rfl
    obtain ⟨r9, rfl, N9q, e9, SE9⟩ := hQ9
    have N9 := Fr.app N0 N9q
    replace X9 : Stand p l e ({ frames := 2, cells := 0, slots := 0, locals := 28 } : Room) s m _ below meth c T9 _ 0 0 := X9
    refine own_go (fun t_ k => st9.trans k) ?_
    show WP p e below _ (T9.setTop (mkF m 34 #[.val (.ref a1), .val (.ref a2), .val (.ref a2)] [(.int r9)]))
    by_cases hc34_10 : r9 = (0 : Int32)
    · refine own_go (fun t_ k => XS.ifYes X9.here hx rfl (pc0 := 34) (pc' := 77) rfl (hb hby d9_34) rfl ((if0 _ _).trans (teq hc34_10).1) (by decide) (by decide) k) ?_
      show WP p e below _ (T9.setTop (mkF m 77 #[.val (.ref a1), .val (.ref a2), .val (.ref a2)] []))
      refine own_go (fun t_ k => XS.iconst X9.here hx rfl (hb hby d9_77) k) ?_
      show WP p e below _ (T9.setTop (mkF m 78 #[.val (.ref a1), .val (.ref a2), .val (.ref a2)] [(.int (0 : Int32))]))
      exact own_retZ X9 hx Bd.notSynchronized Bd.returns (hb hby d9_78) (by decide) (⟨_, rfl, N9, e9, own_e9_1 SE9 ha20_6 hc34_10⟩) (by decide) (by decide)
    · refine own_go (fun t_ k => XS.ifNo X9.here hx rfl (hb hby d9_34) rfl ((if0 _ _).trans (feq hc34_10).1) k) ?_
      show WP p e below _ (T9.setTop (mkF m 37 #[.val (.ref a1), .val (.ref a2), .val (.ref a2)] []))
      refine own_go (fun t_ k => XS.aloadN X9.here hx rfl (hb hby d9_37) rfl rfl k) ?_
      show WP p e below _ (T9.setTop (mkF m 38 #[.val (.ref a1), .val (.ref a2), .val (.ref a2)] [(.ref a1)]))
      obtain ⟨T11, X11, e11, st11⟩ := getF X9 hx hZ hown (host := "") (Or.inl (hw _ (List.mem_of_getElem? (i := 50) rfl))) Via.refl e9 Pf3 (g := (mkF m 38 #[.val (.ref a1), .val (.ref a2), .val (.ref a2)] [(.ref a1)])) rfl rfl (hb hby d9_38)
      refine own_go st11 ?_
      show WP p e below _ (T11.setTop (mkF m 41 #[.val (.ref a1), .val (.ref a2), .val (.ref a2)] [(.ref he1)]))
      refine own_go (fun t_ k => XS.aloadN X11.here hx rfl (hb hby d9_41) rfl rfl k) ?_
      show WP p e below _ (T11.setTop (mkF m 42 #[.val (.ref a1), .val (.ref a2), .val (.ref a2)] [(.ref a2), (.ref he1)]))
      obtain ⟨T12, X12, e12, st12⟩ := getF X11 hx hZ hown (host := "") (Or.inl (hw _ (List.mem_of_getElem? (i := 50) rfl))) Via.refl e11 Pf9 (g := (mkF m 42 #[.val (.ref a1), .val (.ref a2), .val (.ref a2)] [(.ref a2), (.ref he1)])) rfl rfl (hb hby d9_42)
      refine own_go st12 ?_
      show WP p e below _ (T12.setTop (mkF m 45 #[.val (.ref a1), .val (.ref a2), .val (.ref a2)] [(.ref he2), (.ref he1)]))
      obtain ⟨cq13, kq13, q13a, q13b, q13c⟩ := isOf (T := T12) hZ e12 Pf20
      obtain ⟨_, T13, Lc13, X13, hQ13, st13⟩ := own_un X12 0 0 (X12.virtualBack hx (y := (⟨"java/lang/String", "equals", "(Ljava/lang/Object;)Z"⟩ : MethodName)) (z := (⟨"java/lang/String", "equals", "(Ljava/lang/Object;)Z"⟩ : MethodName)) hown (mvT hZ (hw _ (List.mem_of_getElem? (i := 66) rfl))) (mvT hZ (hw _ (List.mem_of_getElem? (i := 67) rfl))) (notFace_of_selects (args := #[]) (mvT hZ (hw _ (List.mem_of_getElem? (i := 69) rfl)))) (mvT hZ (hw _ (List.mem_of_getElem? (i := 69) rfl))) (mvT hZ (hw _ (List.mem_of_getElem? (i := 68) rfl))) (by decide) (backOf (W := 0) (rmSe l Z a0 hw [] he1 he2 bhe1 bhe2 khe1 khe2 nhe1 nhe2 xhe1 xhe2 cs h0 n0 Pf24 Pf28 Pf21 Pf25 Pf22 Pf26 Pf23 Pf27 h12 hcs L3 L4) hZ (hw _ (List.mem_of_getElem? (i := 70) rfl)) (hw _ (List.mem_of_getElem? (i := 6) rfl)) (by decide) (by decide)) q13a q13c (g := (mkF m 45 #[.val (.ref a1), .val (.ref a2), .val (.ref a2)] [(.ref he2), (.ref he1)])) rfl (by rw [hml]; rfl) (Steps.refl _) (argsL := [(.ref he2)]) (rest := []) (lenOf pd_7 rfl) rfl (by show 2 * 0 + _ ≤ _; exact Nat.le_of_eq rfl) (hb hby d9_45) (fun _ _ => ⟨rfl, e12, (by decide : 0 + 0 ≤ _), (by decide : 0 + 0 ≤ _)⟩))
      dsimp only [Pt.U] at st13
      have er13 : T13.heap = T13.heap := rfl
      obtain ⟨r13, rfl, N13q, e13, SE13⟩ := hQ13
      have N13 := Fr.app N9 N13q
      replace X13 : Stand p l e ({ frames := 2, cells := 0, slots := 0, locals := 28 } : Room) s m _ below meth c T13 _ 0 0 := X13
      refine own_go (fun t_ k => st13.trans k) ?_
      show WP p e below _ (T13.setTop (mkF m 48 #[.val (.ref a1), .val (.ref a2), .val (.ref a2)] [(.int r13)]))
      by_cases hc48_14 : r13 = (0 : Int32)
      · refine own_go (fun t_ k => XS.ifYes X13.here hx rfl (pc0 := 48) (pc' := 77) rfl (hb hby d9_48) rfl ((if0 _ _).trans (teq hc48_14).1) (by decide) (by decide) k) ?_
        show WP p e below _ (T13.setTop (mkF m 77 #[.val (.ref a1), .val (.ref a2), .val (.ref a2)] []))
        refine own_go (fun t_ k => XS.iconst X13.here hx rfl (hb hby d9_77) k) ?_
        show WP p e below _ (T13.setTop (mkF m 78 #[.val (.ref a1), .val (.ref a2), .val (.ref a2)] [(.int (0 : Int32))]))
        exact own_retZ X13 hx Bd.notSynchronized Bd.returns (hb hby d9_78) (by decide) (⟨_, rfl, N13, e13, own_e9_2 SE9 SE13 ha20_6 hc34_10 hc48_14⟩) (by decide) (by decide)
      · refine own_go (fun t_ k => XS.ifNo X13.here hx rfl (hb hby d9_48) rfl ((if0 _ _).trans (feq hc48_14).1) k) ?_
        show WP p e below _ (T13.setTop (mkF m 51 #[.val (.ref a1), .val (.ref a2), .val (.ref a2)] []))
        refine own_go (fun t_ k => XS.aloadN X13.here hx rfl (hb hby d9_51) rfl rfl k) ?_
        show WP p e below _ (T13.setTop (mkF m 52 #[.val (.ref a1), .val (.ref a2), .val (.ref a2)] [(.ref a1)]))
        obtain ⟨T15, X15, e15, st15⟩ := getF X13 hx hZ hown (host := "") (Or.inl (hw _ (List.mem_of_getElem? (i := 52) rfl))) Via.refl e13 Pf4 (g := (mkF m 52 #[.val (.ref a1), .val (.ref a2), .val (.ref a2)] [(.ref a1)])) rfl rfl (hb hby d9_52)
        refine own_go st15 ?_
        show WP p e below _ (T15.setTop (mkF m 55 #[.val (.ref a1), .val (.ref a2), .val (.ref a2)] [(.int li1)]))
        refine own_go (fun t_ k => XS.aloadN X15.here hx rfl (hb hby d9_55) rfl rfl k) ?_
        show WP p e below _ (T15.setTop (mkF m 56 #[.val (.ref a1), .val (.ref a2), .val (.ref a2)] [(.ref a2), (.int li1)]))
        obtain ⟨T16, X16, e16, st16⟩ := getF X15 hx hZ hown (host := "") (Or.inl (hw _ (List.mem_of_getElem? (i := 52) rfl))) Via.refl e15 Pf10 (g := (mkF m 56 #[.val (.ref a1), .val (.ref a2), .val (.ref a2)] [(.ref a2), (.int li1)])) rfl rfl (hb hby d9_56)
        refine own_go st16 ?_
        show WP p e below _ (T16.setTop (mkF m 59 #[.val (.ref a1), .val (.ref a2), .val (.ref a2)] [(.int li2), (.int li1)]))
        by_cases hc59_17 : li1 = li2
        · refine own_go (fun t_ k => XS.icmpNo X16.here hx rfl (hb hby d9_59) rfl (teq hc59_17).2 k) ?_
          show WP p e below _ (T16.setTop (mkF m 62 #[.val (.ref a1), .val (.ref a2), .val (.ref a2)] []))
          refine own_go (fun t_ k => XS.aloadN X16.here hx rfl (hb hby d9_62) rfl rfl k) ?_
          show WP p e below _ (T16.setTop (mkF m 63 #[.val (.ref a1), .val (.ref a2), .val (.ref a2)] [(.ref a1)]))
          obtain ⟨T18, X18, e18, st18⟩ := getF X16 hx hZ hown (host := "") (Or.inl (hw _ (List.mem_of_getElem? (i := 54) rfl))) Via.refl e16 Pf5 (g := (mkF m 63 #[.val (.ref a1), .val (.ref a2), .val (.ref a2)] [(.ref a1)])) rfl rfl (hb hby d9_63)
          refine own_go st18 ?_
          show WP p e below _ (T18.setTop (mkF m 66 #[.val (.ref a1), .val (.ref a2), .val (.ref a2)] [(.int co1)]))
          refine own_go (fun t_ k => XS.aloadN X18.here hx rfl (hb hby d9_66) rfl rfl k) ?_
          show WP p e below _ (T18.setTop (mkF m 67 #[.val (.ref a1), .val (.ref a2), .val (.ref a2)] [(.ref a2), (.int co1)]))
          obtain ⟨T19, X19, e19, st19⟩ := getF X18 hx hZ hown (host := "") (Or.inl (hw _ (List.mem_of_getElem? (i := 54) rfl))) Via.refl e18 Pf11 (g := (mkF m 67 #[.val (.ref a1), .val (.ref a2), .val (.ref a2)] [(.ref a2), (.int co1)])) rfl rfl (hb hby d9_67)
          refine own_go st19 ?_
          show WP p e below _ (T19.setTop (mkF m 70 #[.val (.ref a1), .val (.ref a2), .val (.ref a2)] [(.int co2), (.int co1)]))
          by_cases hc70_20 : co1 = co2
          · refine own_go (fun t_ k => XS.icmpNo X19.here hx rfl (hb hby d9_70) rfl (teq hc70_20).2 k) ?_
            show WP p e below _ (T19.setTop (mkF m 73 #[.val (.ref a1), .val (.ref a2), .val (.ref a2)] []))
            refine own_go (fun t_ k => XS.iconst X19.here hx rfl (hb hby d9_73) k) ?_
            show WP p e below _ (T19.setTop (mkF m 74 #[.val (.ref a1), .val (.ref a2), .val (.ref a2)] [(.int (1 : Int32))]))
            refine own_go (fun t_ k => XS.goto X19.here hx rfl (pc0 := 74) (pc' := 78) rfl (hb hby d9_74) (by decide) (by decide) k) ?_
            show WP p e below _ (T19.setTop (mkF m 78 #[.val (.ref a1), .val (.ref a2), .val (.ref a2)] [(.int (1 : Int32))]))
            exact own_retZ X19 hx Bd.notSynchronized Bd.returns (hb hby d9_78) (by decide) (⟨_, rfl, N13, e19, own_e9_3 SE9 SE13 ha20_6 hc34_10 hc48_14 hc59_17 hc70_20⟩) (by decide) (by decide)
          · refine own_go (fun t_ k => XS.icmpYes X19.here hx rfl (pc0 := 70) (pc' := 77) rfl (hb hby d9_70) rfl (feq hc70_20).2 (by decide) (by decide) k) ?_
            show WP p e below _ (T19.setTop (mkF m 77 #[.val (.ref a1), .val (.ref a2), .val (.ref a2)] []))
            refine own_go (fun t_ k => XS.iconst X19.here hx rfl (hb hby d9_77) k) ?_
            show WP p e below _ (T19.setTop (mkF m 78 #[.val (.ref a1), .val (.ref a2), .val (.ref a2)] [(.int (0 : Int32))]))
            exact own_retZ X19 hx Bd.notSynchronized Bd.returns (hb hby d9_78) (by decide) (⟨_, rfl, N13, e19, own_e9_4 SE9 SE13 ha20_6 hc34_10 hc48_14 hc59_17 hc70_20⟩) (by decide) (by decide)
        · refine own_go (fun t_ k => XS.icmpYes X16.here hx rfl (pc0 := 59) (pc' := 77) rfl (hb hby d9_59) rfl (feq hc59_17).2 (by decide) (by decide) k) ?_
          show WP p e below _ (T16.setTop (mkF m 77 #[.val (.ref a1), .val (.ref a2), .val (.ref a2)] []))
          refine own_go (fun t_ k => XS.iconst X16.here hx rfl (hb hby d9_77) k) ?_
          show WP p e below _ (T16.setTop (mkF m 78 #[.val (.ref a1), .val (.ref a2), .val (.ref a2)] [(.int (0 : Int32))]))
          exact own_retZ X16 hx Bd.notSynchronized Bd.returns (hb hby d9_78) (by decide) (⟨_, rfl, N13, e16, own_e9_5 SE9 SE13 ha20_6 hc34_10 hc48_14 hc59_17⟩) (by decide) (by decide)
  · refine own_go (fun t_ k => Jvm.RoadKit.acmp (g := (mkF m 20 #[.val (.ref a1), .val (.ref a2), .val (.ref a2)] [(.ref kd2), (.ref kd1)])) X5 hx rfl rfl rfl (pc0 := 20) (pc' := 77) (same := false) rfl (hb hby d9_20) rfl (decide_eq_false fun q => ha20_6 (Value.ref.inj q)) (by decide) (by decide) k) ?_
    show WP p e below _ (T5.setTop (mkF m 77 #[.val (.ref a1), .val (.ref a2), .val (.ref a2)] []))
    refine own_go (fun t_ k => XS.iconst X5.here hx rfl (hb hby d9_77) k) ?_
    show WP p e below _ (T5.setTop (mkF m 78 #[.val (.ref a1), .val (.ref a2), .val (.ref a2)] [(.int (0 : Int32))]))
    exact own_retZ X5 hx Bd.notSynchronized Bd.returns (hb hby d9_78) (by decide) (⟨_, rfl, N0, e5, own_e9_6  ha20_6 (rr_ := 0)⟩) (by decide) (by decide)
def Q_rm9s (Z : State) (a1 : Addr) (kd1 : Addr) (nu1 : Addr) (he1 : Addr) (li1 : Int32) (co1 : Int32) (h0 : Heap) (n0 : Nat) (v : Option Value) (h : Heap) (L : List Loc) : Prop := v = some (.int (1 : Int32)) ∧ Fr n0 L ∧ h = h0
theorem ef_rm9s (m : MethodId) (x0 : Addr) (x1 : Addr) : entryFrame m #[(.ref x0), (.ref x1)] 3 = mkF m 0 #[.val (.ref x0), .val (.ref x1), .unset] [] := by first | (simp [entryFrame, mkF, argsToLocals, Value.category]; done) | rfl
set_option maxRecDepth 65536 in
set_option maxHeartbeats 40000000 in
theorem rm9s (l : Launch) (Z : State) (a0 : Array Value) (hw : ∀ d ∈ tables_1, d.before a0 Z = true) (ws : List Jvm.Cond) (a1 : Addr) (kd1 : Addr) (nu1 : Addr) (he1 : Addr) (li1 : Int32) (co1 : Int32) (h0 : Heap) (n0 : Nat) (Pf0 : Exa Z h0 a1 "com/example/covenant_atlas/covenantatlas/model/OutlineEntry") (Pf1 : Fld Z h0 a1 "com/example/covenant_atlas/covenantatlas/model/OutlineEntry" "kind" "Lcom/example/covenant_atlas/covenantatlas/model/PartKind;" (.ref kd1)) (Pf2 : Fld Z h0 a1 "com/example/covenant_atlas/covenantatlas/model/OutlineEntry" "number" "Ljava/lang/String;" (.ref nu1)) (Pf3 : Fld Z h0 a1 "com/example/covenant_atlas/covenantatlas/model/OutlineEntry" "heading" "Ljava/lang/String;" (.ref he1)) (Pf4 : Fld Z h0 a1 "com/example/covenant_atlas/covenantatlas/model/OutlineEntry" "line" "I" (.int li1)) (Pf5 : Fld Z h0 a1 "com/example/covenant_atlas/covenantatlas/model/OutlineEntry" "column" "I" (.int co1)) (Pf6 : Exa Z h0 nu1 "java/lang/String") (Pf7 : Exa Z h0 he1 "java/lang/String") :
    MetFree l (⟨"com/example/covenant_atlas/covenantatlas/model/OutlineEntry", "equals", "(Ljava/lang/Object;)Z"⟩ : MethodName) (head1 (Jvm.Cond.code (⟨"com/example/covenant_atlas/covenantatlas/model/OutlineEntry", "equals", "(Ljava/lang/Object;)Z"⟩ : MethodName) prog_34_method_7_code 3 (some .boolean) :: ws) ({ frames := 1, cells := 0, slots := 0, locals := 14 } : Room)) (fun a U => a = #[(.ref a1), (.ref a1)] ∧ Z.Warmed39 U.vm ∧ U.heap = h0) (fun _ _ _ _ _ => True) (fun _ U o U' => ∃ v L, o = .returned v ∧ (Q_rm9s Z a1 kd1 nu1 he1 li1 co1 h0 n0) v U'.heap L ∧ FrameEnd U o U' L ({ frames := 1, cells := 0, slots := 0, locals := 14 } : Room).cells ({ frames := 1, cells := 0, slots := 0, locals := 14 } : Room).slots) := by
  refine MetFree.of_bodySF (plainFor_of_name pn_4) hisR ?_
  intro p e s m args below meth c s₁ Bd hml0 hP hK
  obtain ⟨rfl, hZ, hh⟩ := hP
  have hx := Bd.exec
  have hby := Bd.bytes
  have hml : c.maxLocals = 3 := hml0
  have hown : s.vm.findClass "com/example/covenant_atlas/covenantatlas/model/OutlineEntry" = some m.cls := findClass_of_methodNamed Bd.named
  have hnm := (name_of_methodNamed Bd.named Bd.method).1
  have X0 : Stand p l e ({ frames := 1, cells := 0, slots := 0, locals := 14 } : Room) s m #[(.ref a1), (.ref a1)] below meth c s₁ [] 0 0 := Stand.of_body Bd
  have e0 : s₁.heap = h0 := by rw [← hh, Bd.state]; rfl
  have N0 := Fr.nil n0
  show WP p e below (GG (Q_rm9s Z a1 kd1 nu1 he1 li1 co1 h0 n0) s ({ frames := 1, cells := 0, slots := 0, locals := 14 } : Room).cells ({ frames := 1, cells := 0, slots := 0, locals := 14 } : Room).slots) (s₁.setTop (entryFrame m #[(.ref a1), (.ref a1)] 3))
  rw [ef_rm9s m a1 a1]
  show WP p e below _ (s₁.setTop (mkF m 0 #[.val (.ref a1), .val (.ref a1), .unset] []))
  refine own_go (fun t_ k => XS.aloadN X0.here hx rfl (hb hby d9_0) rfl rfl k) ?_
  show WP p e below _ (s₁.setTop (mkF m 1 #[.val (.ref a1), .val (.ref a1), .unset] [(.ref a1)]))
  obtain ⟨T1, X1, e1, st1⟩ := instY X0 hx hZ hown (hw _ (List.mem_of_getElem? (i := 64) rfl)) e0 (Ins.of_exa Pf0 (hw _ (List.mem_of_getElem? (i := 65) rfl))) (g := (mkF m 1 #[.val (.ref a1), .val (.ref a1), .unset] [(.ref a1)])) rfl rfl (hb hby d9_1)
  refine own_go st1 ?_
  show WP p e below _ (T1.setTop (mkF m 4 #[.val (.ref a1), .val (.ref a1), .unset] [(.int (1 : Int32))]))
  have hc4_2 : ¬ ((1 : Int32) = (0 : Int32)) := by decide
  refine own_go (fun t_ k => XS.ifNo X1.here hx rfl (hb hby d9_4) rfl ((if0 _ _).trans (feq hc4_2).1) k) ?_
  show WP p e below _ (T1.setTop (mkF m 7 #[.val (.ref a1), .val (.ref a1), .unset] []))
  refine own_go (fun t_ k => XS.aloadN X1.here hx rfl (hb hby d9_7) rfl rfl k) ?_
  show WP p e below _ (T1.setTop (mkF m 8 #[.val (.ref a1), .val (.ref a1), .unset] [(.ref a1)]))
  obtain ⟨T3, X3, e3, st3⟩ := castY X1 hx hZ hown (hw _ (List.mem_of_getElem? (i := 64) rfl)) e1 (Ins.of_exa Pf0 (hw _ (List.mem_of_getElem? (i := 65) rfl))) (g := (mkF m 8 #[.val (.ref a1), .val (.ref a1), .unset] [(.ref a1)])) rfl rfl (hb hby d9_8)
  refine own_go st3 ?_
  show WP p e below _ (T3.setTop (mkF m 11 #[.val (.ref a1), .val (.ref a1), .unset] [(.ref a1)]))
  refine own_go (fun t_ k => XS.astoreN X3.here hx rfl (hb hby d9_11) rfl rfl (l' := #[.val (.ref a1), .val (.ref a1), .val (.ref a1)]) rfl k) ?_
  show WP p e below _ (T3.setTop (mkF m 12 #[.val (.ref a1), .val (.ref a1), .val (.ref a1)] []))
  refine own_go (fun t_ k => XS.aloadN X3.here hx rfl (hb hby d9_12) rfl rfl k) ?_
  show WP p e below _ (T3.setTop (mkF m 13 #[.val (.ref a1), .val (.ref a1), .val (.ref a1)] [(.ref a1)]))
  obtain ⟨T4, X4, e4, st4⟩ := getF X3 hx hZ hown (host := "") (Or.inl (hw _ (List.mem_of_getElem? (i := 45) rfl))) Via.refl e3 Pf1 (g := (mkF m 13 #[.val (.ref a1), .val (.ref a1), .val (.ref a1)] [(.ref a1)])) rfl rfl (hb hby d9_13)
  refine own_go st4 ?_
  show WP p e below _ (T4.setTop (mkF m 16 #[.val (.ref a1), .val (.ref a1), .val (.ref a1)] [(.ref kd1)]))
  refine own_go (fun t_ k => XS.aloadN X4.here hx rfl (hb hby d9_16) rfl rfl k) ?_
  show WP p e below _ (T4.setTop (mkF m 17 #[.val (.ref a1), .val (.ref a1), .val (.ref a1)] [(.ref a1), (.ref kd1)]))
  obtain ⟨T5, X5, e5, st5⟩ := getF X4 hx hZ hown (host := "") (Or.inl (hw _ (List.mem_of_getElem? (i := 45) rfl))) Via.refl e4 Pf1 (g := (mkF m 17 #[.val (.ref a1), .val (.ref a1), .val (.ref a1)] [(.ref a1), (.ref kd1)])) rfl rfl (hb hby d9_17)
  refine own_go st5 ?_
  show WP p e below _ (T5.setTop (mkF m 20 #[.val (.ref a1), .val (.ref a1), .val (.ref a1)] [(.ref kd1), (.ref kd1)]))
  refine own_go (fun t_ k => Jvm.RoadKit.acmp (g := (mkF m 20 #[.val (.ref a1), .val (.ref a1), .val (.ref a1)] [(.ref kd1), (.ref kd1)])) X5 hx rfl rfl rfl (pc0 := 20) (pc' := 23) (same := true) rfl (hb hby d9_20) rfl (decide_eq_true rfl) (by decide) (by decide) k) ?_
  show WP p e below _ (T5.setTop (mkF m 23 #[.val (.ref a1), .val (.ref a1), .val (.ref a1)] []))
  refine own_go (fun t_ k => XS.aloadN X5.here hx rfl (hb hby d9_23) rfl rfl k) ?_
  show WP p e below _ (T5.setTop (mkF m 24 #[.val (.ref a1), .val (.ref a1), .val (.ref a1)] [(.ref a1)]))
  obtain ⟨T6, X6, e6, st6⟩ := getF X5 hx hZ hown (host := "") (Or.inl (hw _ (List.mem_of_getElem? (i := 48) rfl))) Via.refl e5 Pf2 (g := (mkF m 24 #[.val (.ref a1), .val (.ref a1), .val (.ref a1)] [(.ref a1)])) rfl rfl (hb hby d9_24)
  refine own_go st6 ?_
  show WP p e below _ (T6.setTop (mkF m 27 #[.val (.ref a1), .val (.ref a1), .val (.ref a1)] [(.ref nu1)]))
  refine own_go (fun t_ k => XS.aloadN X6.here hx rfl (hb hby d9_27) rfl rfl k) ?_
  show WP p e below _ (T6.setTop (mkF m 28 #[.val (.ref a1), .val (.ref a1), .val (.ref a1)] [(.ref a1), (.ref nu1)]))
  obtain ⟨T7, X7, e7, st7⟩ := getF X6 hx hZ hown (host := "") (Or.inl (hw _ (List.mem_of_getElem? (i := 48) rfl))) Via.refl e6 Pf2 (g := (mkF m 28 #[.val (.ref a1), .val (.ref a1), .val (.ref a1)] [(.ref a1), (.ref nu1)])) rfl rfl (hb hby d9_28)
  refine own_go st7 ?_
  show WP p e below _ (T7.setTop (mkF m 31 #[.val (.ref a1), .val (.ref a1), .val (.ref a1)] [(.ref nu1), (.ref nu1)]))
  obtain ⟨cq8, kq8, q8a, q8b, q8c⟩ := isOf (T := T7) hZ e7 Pf6
  obtain ⟨_, T8, Lc8, X8, hQ8, st8⟩ := own_un X7 0 0 (X7.virtualBack hx (y := (⟨"java/lang/String", "equals", "(Ljava/lang/Object;)Z"⟩ : MethodName)) (z := (⟨"java/lang/String", "equals", "(Ljava/lang/Object;)Z"⟩ : MethodName)) hown (mvT hZ (hw _ (List.mem_of_getElem? (i := 66) rfl))) (mvT hZ (hw _ (List.mem_of_getElem? (i := 67) rfl))) (notFace_of_selects (args := #[]) (mvT hZ (hw _ (List.mem_of_getElem? (i := 69) rfl)))) (mvT hZ (hw _ (List.mem_of_getElem? (i := 69) rfl))) (mvT hZ (hw _ (List.mem_of_getElem? (i := 68) rfl))) (by decide) (backOf (W := 0) (rmSs l Z a0 hw [] nu1 h0 n0) hZ (hw _ (List.mem_of_getElem? (i := 70) rfl)) (hw _ (List.mem_of_getElem? (i := 6) rfl)) (by decide) (by decide)) q8a q8c (g := (mkF m 31 #[.val (.ref a1), .val (.ref a1), .val (.ref a1)] [(.ref nu1), (.ref nu1)])) rfl (by rw [hml]; rfl) (Steps.refl _) (argsL := [(.ref nu1)]) (rest := []) (lenOf pd_7 rfl) rfl (by show 2 * 0 + _ ≤ _; exact Nat.le_of_eq rfl) (hb hby d9_31) (fun _ _ => ⟨rfl, e7, (by decide : 0 + 0 ≤ _), (by decide : 0 + 0 ≤ _)⟩))
  dsimp only [Pt.U] at st8
  have er8 : T8.heap = T8.heap := rfl
  obtain ⟨rfl, N8q, e8⟩ := hQ8
  have N8 := Fr.app N0 N8q
  replace X8 : Stand p l e ({ frames := 1, cells := 0, slots := 0, locals := 14 } : Room) s m _ below meth c T8 _ 0 0 := X8
  refine own_go (fun t_ k => st8.trans k) ?_
  show WP p e below _ (T8.setTop (mkF m 34 #[.val (.ref a1), .val (.ref a1), .val (.ref a1)] [(.int (1 : Int32))]))
  have hc34_9 : ¬ ((1 : Int32) = (0 : Int32)) := by decide
  refine own_go (fun t_ k => XS.ifNo X8.here hx rfl (hb hby d9_34) rfl ((if0 _ _).trans (feq hc34_9).1) k) ?_
  show WP p e below _ (T8.setTop (mkF m 37 #[.val (.ref a1), .val (.ref a1), .val (.ref a1)] []))
  refine own_go (fun t_ k => XS.aloadN X8.here hx rfl (hb hby d9_37) rfl rfl k) ?_
  show WP p e below _ (T8.setTop (mkF m 38 #[.val (.ref a1), .val (.ref a1), .val (.ref a1)] [(.ref a1)]))
  obtain ⟨T10, X10, e10, st10⟩ := getF X8 hx hZ hown (host := "") (Or.inl (hw _ (List.mem_of_getElem? (i := 50) rfl))) Via.refl e8 Pf3 (g := (mkF m 38 #[.val (.ref a1), .val (.ref a1), .val (.ref a1)] [(.ref a1)])) rfl rfl (hb hby d9_38)
  refine own_go st10 ?_
  show WP p e below _ (T10.setTop (mkF m 41 #[.val (.ref a1), .val (.ref a1), .val (.ref a1)] [(.ref he1)]))
  refine own_go (fun t_ k => XS.aloadN X10.here hx rfl (hb hby d9_41) rfl rfl k) ?_
  show WP p e below _ (T10.setTop (mkF m 42 #[.val (.ref a1), .val (.ref a1), .val (.ref a1)] [(.ref a1), (.ref he1)]))
  obtain ⟨T11, X11, e11, st11⟩ := getF X10 hx hZ hown (host := "") (Or.inl (hw _ (List.mem_of_getElem? (i := 50) rfl))) Via.refl e10 Pf3 (g := (mkF m 42 #[.val (.ref a1), .val (.ref a1), .val (.ref a1)] [(.ref a1), (.ref he1)])) rfl rfl (hb hby d9_42)
  refine own_go st11 ?_
  show WP p e below _ (T11.setTop (mkF m 45 #[.val (.ref a1), .val (.ref a1), .val (.ref a1)] [(.ref he1), (.ref he1)]))
  obtain ⟨cq12, kq12, q12a, q12b, q12c⟩ := isOf (T := T11) hZ e11 Pf7
  obtain ⟨_, T12, Lc12, X12, hQ12, st12⟩ := own_un X11 0 0 (X11.virtualBack hx (y := (⟨"java/lang/String", "equals", "(Ljava/lang/Object;)Z"⟩ : MethodName)) (z := (⟨"java/lang/String", "equals", "(Ljava/lang/Object;)Z"⟩ : MethodName)) hown (mvT hZ (hw _ (List.mem_of_getElem? (i := 66) rfl))) (mvT hZ (hw _ (List.mem_of_getElem? (i := 67) rfl))) (notFace_of_selects (args := #[]) (mvT hZ (hw _ (List.mem_of_getElem? (i := 69) rfl)))) (mvT hZ (hw _ (List.mem_of_getElem? (i := 69) rfl))) (mvT hZ (hw _ (List.mem_of_getElem? (i := 68) rfl))) (by decide) (backOf (W := 0) (rmSs l Z a0 hw [] he1 h0 n0) hZ (hw _ (List.mem_of_getElem? (i := 70) rfl)) (hw _ (List.mem_of_getElem? (i := 6) rfl)) (by decide) (by decide)) q12a q12c (g := (mkF m 45 #[.val (.ref a1), .val (.ref a1), .val (.ref a1)] [(.ref he1), (.ref he1)])) rfl (by rw [hml]; rfl) (Steps.refl _) (argsL := [(.ref he1)]) (rest := []) (lenOf pd_7 rfl) rfl (by show 2 * 0 + _ ≤ _; exact Nat.le_of_eq rfl) (hb hby d9_45) (fun _ _ => ⟨rfl, e11, (by decide : 0 + 0 ≤ _), (by decide : 0 + 0 ≤ _)⟩))
  dsimp only [Pt.U] at st12
  have er12 : T12.heap = T12.heap := rfl
  obtain ⟨rfl, N12q, e12⟩ := hQ12
  have N12 := Fr.app N8 N12q
  replace X12 : Stand p l e ({ frames := 1, cells := 0, slots := 0, locals := 14 } : Room) s m _ below meth c T12 _ 0 0 := X12
  refine own_go (fun t_ k => st12.trans k) ?_
  show WP p e below _ (T12.setTop (mkF m 48 #[.val (.ref a1), .val (.ref a1), .val (.ref a1)] [(.int (1 : Int32))]))
  have hc48_13 : ¬ ((1 : Int32) = (0 : Int32)) := by decide
  refine own_go (fun t_ k => XS.ifNo X12.here hx rfl (hb hby d9_48) rfl ((if0 _ _).trans (feq hc48_13).1) k) ?_
  show WP p e below _ (T12.setTop (mkF m 51 #[.val (.ref a1), .val (.ref a1), .val (.ref a1)] []))
  refine own_go (fun t_ k => XS.aloadN X12.here hx rfl (hb hby d9_51) rfl rfl k) ?_
  show WP p e below _ (T12.setTop (mkF m 52 #[.val (.ref a1), .val (.ref a1), .val (.ref a1)] [(.ref a1)]))
  obtain ⟨T14, X14, e14, st14⟩ := getF X12 hx hZ hown (host := "") (Or.inl (hw _ (List.mem_of_getElem? (i := 52) rfl))) Via.refl e12 Pf4 (g := (mkF m 52 #[.val (.ref a1), .val (.ref a1), .val (.ref a1)] [(.ref a1)])) rfl rfl (hb hby d9_52)
  refine own_go st14 ?_
  show WP p e below _ (T14.setTop (mkF m 55 #[.val (.ref a1), .val (.ref a1), .val (.ref a1)] [(.int li1)]))
  refine own_go (fun t_ k => XS.aloadN X14.here hx rfl (hb hby d9_55) rfl rfl k) ?_
  show WP p e below _ (T14.setTop (mkF m 56 #[.val (.ref a1), .val (.ref a1), .val (.ref a1)] [(.ref a1), (.int li1)]))
  obtain ⟨T15, X15, e15, st15⟩ := getF X14 hx hZ hown (host := "") (Or.inl (hw _ (List.mem_of_getElem? (i := 52) rfl))) Via.refl e14 Pf4 (g := (mkF m 56 #[.val (.ref a1), .val (.ref a1), .val (.ref a1)] [(.ref a1), (.int li1)])) rfl rfl (hb hby d9_56)
  refine own_go st15 ?_
  show WP p e below _ (T15.setTop (mkF m 59 #[.val (.ref a1), .val (.ref a1), .val (.ref a1)] [(.int li1), (.int li1)]))
  have hc59_16 : (li1 = li1) := rfl
  refine own_go (fun t_ k => XS.icmpNo X15.here hx rfl (hb hby d9_59) rfl (teq hc59_16).2 k) ?_
  show WP p e below _ (T15.setTop (mkF m 62 #[.val (.ref a1), .val (.ref a1), .val (.ref a1)] []))
  refine own_go (fun t_ k => XS.aloadN X15.here hx rfl (hb hby d9_62) rfl rfl k) ?_
  show WP p e below _ (T15.setTop (mkF m 63 #[.val (.ref a1), .val (.ref a1), .val (.ref a1)] [(.ref a1)]))
  obtain ⟨T17, X17, e17, st17⟩ := getF X15 hx hZ hown (host := "") (Or.inl (hw _ (List.mem_of_getElem? (i := 54) rfl))) Via.refl e15 Pf5 (g := (mkF m 63 #[.val (.ref a1), .val (.ref a1), .val (.ref a1)] [(.ref a1)])) rfl rfl (hb hby d9_63)
  refine own_go st17 ?_
  show WP p e below _ (T17.setTop (mkF m 66 #[.val (.ref a1), .val (.ref a1), .val (.ref a1)] [(.int co1)]))
  refine own_go (fun t_ k => XS.aloadN X17.here hx rfl (hb hby d9_66) rfl rfl k) ?_
  show WP p e below _ (T17.setTop (mkF m 67 #[.val (.ref a1), .val (.ref a1), .val (.ref a1)] [(.ref a1), (.int co1)]))
  obtain ⟨T18, X18, e18, st18⟩ := getF X17 hx hZ hown (host := "") (Or.inl (hw _ (List.mem_of_getElem? (i := 54) rfl))) Via.refl e17 Pf5 (g := (mkF m 67 #[.val (.ref a1), .val (.ref a1), .val (.ref a1)] [(.ref a1), (.int co1)])) rfl rfl (hb hby d9_67)
  refine own_go st18 ?_
  show WP p e below _ (T18.setTop (mkF m 70 #[.val (.ref a1), .val (.ref a1), .val (.ref a1)] [(.int co1), (.int co1)]))
  have hc70_19 : (co1 = co1) := rfl
  refine own_go (fun t_ k => XS.icmpNo X18.here hx rfl (hb hby d9_70) rfl (teq hc70_19).2 k) ?_
  show WP p e below _ (T18.setTop (mkF m 73 #[.val (.ref a1), .val (.ref a1), .val (.ref a1)] []))
  refine own_go (fun t_ k => XS.iconst X18.here hx rfl (hb hby d9_73) k) ?_
  show WP p e below _ (T18.setTop (mkF m 74 #[.val (.ref a1), .val (.ref a1), .val (.ref a1)] [(.int (1 : Int32))]))
  refine own_go (fun t_ k => XS.goto X18.here hx rfl (pc0 := 74) (pc' := 78) rfl (hb hby d9_74) (by decide) (by decide) k) ?_
  show WP p e below _ (T18.setTop (mkF m 78 #[.val (.ref a1), .val (.ref a1), .val (.ref a1)] [(.int (1 : Int32))]))
  exact own_retZ X18 hx Bd.notSynchronized Bd.returns (hb hby d9_78) (by decide) (⟨rfl, N12, e18⟩) (by decide) (by decide)
def Q_rm9n (Z : State) (a1 : Addr) (h0 : Heap) (n0 : Nat) (v : Option Value) (h : Heap) (L : List Loc) : Prop := v = some (.int (0 : Int32)) ∧ Fr n0 L ∧ h = h0
theorem ef_rm9n (m : MethodId) (x0 : Addr) : entryFrame m #[(.ref x0), .null] 3 = mkF m 0 #[.val (.ref x0), .val .null, .unset] [] := by first | (simp [entryFrame, mkF, argsToLocals, Value.category]; done) | rfl
set_option maxRecDepth 65536 in
set_option maxHeartbeats 40000000 in
theorem rm9n (l : Launch) (Z : State) (a0 : Array Value) (hw : ∀ d ∈ tables_1, d.before a0 Z = true) (ws : List Jvm.Cond) (a1 : Addr) (h0 : Heap) (n0 : Nat) :
    MetFree l (⟨"com/example/covenant_atlas/covenantatlas/model/OutlineEntry", "equals", "(Ljava/lang/Object;)Z"⟩ : MethodName) (head1 (Jvm.Cond.code (⟨"com/example/covenant_atlas/covenantatlas/model/OutlineEntry", "equals", "(Ljava/lang/Object;)Z"⟩ : MethodName) prog_34_method_7_code 3 (some .boolean) :: ws) ({ frames := 0, cells := 0, slots := 0, locals := 0 } : Room)) (fun a U => a = #[(.ref a1), .null] ∧ Z.Warmed39 U.vm ∧ U.heap = h0) (fun _ _ _ _ _ => True) (fun _ U o U' => ∃ v L, o = .returned v ∧ (Q_rm9n Z a1 h0 n0) v U'.heap L ∧ FrameEnd U o U' L ({ frames := 0, cells := 0, slots := 0, locals := 0 } : Room).cells ({ frames := 0, cells := 0, slots := 0, locals := 0 } : Room).slots) := by
  refine MetFree.of_bodySF (plainFor_of_name pn_4) hisR ?_
  intro p e s m args below meth c s₁ Bd hml0 hP hK
  obtain ⟨rfl, hZ, hh⟩ := hP
  have hx := Bd.exec
  have hby := Bd.bytes
  have hml : c.maxLocals = 3 := hml0
  have hown : s.vm.findClass "com/example/covenant_atlas/covenantatlas/model/OutlineEntry" = some m.cls := findClass_of_methodNamed Bd.named
  have hnm := (name_of_methodNamed Bd.named Bd.method).1
  have X0 : Stand p l e ({ frames := 0, cells := 0, slots := 0, locals := 0 } : Room) s m #[(.ref a1), .null] below meth c s₁ [] 0 0 := Stand.of_body Bd
  have e0 : s₁.heap = h0 := by rw [← hh, Bd.state]; rfl
  have N0 := Fr.nil n0
  show WP p e below (GG (Q_rm9n Z a1 h0 n0) s ({ frames := 0, cells := 0, slots := 0, locals := 0 } : Room).cells ({ frames := 0, cells := 0, slots := 0, locals := 0 } : Room).slots) (s₁.setTop (entryFrame m #[(.ref a1), .null] 3))
  rw [ef_rm9n m a1]
  show WP p e below _ (s₁.setTop (mkF m 0 #[.val (.ref a1), .val .null, .unset] []))
  refine own_go (fun t_ k => XS.aloadN X0.here hx rfl (hb hby d9_0) rfl rfl k) ?_
  show WP p e below _ (s₁.setTop (mkF m 1 #[.val (.ref a1), .val .null, .unset] [.null]))
  refine own_go (fun t_ k => Jvm.Stand.instanceofNull X0 hx (g := (mkF m 1 #[.val (.ref a1), .val .null, .unset] [.null])) rfl rfl (hb hby d9_1) _ k) ?_
  show WP p e below _ (s₁.setTop (mkF m 4 #[.val (.ref a1), .val .null, .unset] [(.int (0 : Int32))]))
  have hc4_1 : ((0 : Int32) = (0 : Int32)) := by decide
  refine own_go (fun t_ k => XS.ifYes X0.here hx rfl (pc0 := 4) (pc' := 77) rfl (hb hby d9_4) rfl ((if0 _ _).trans (teq hc4_1).1) (by decide) (by decide) k) ?_
  show WP p e below _ (s₁.setTop (mkF m 77 #[.val (.ref a1), .val .null, .unset] []))
  refine own_go (fun t_ k => XS.iconst X0.here hx rfl (hb hby d9_77) k) ?_
  show WP p e below _ (s₁.setTop (mkF m 78 #[.val (.ref a1), .val .null, .unset] [(.int (0 : Int32))]))
  exact own_retZ X0 hx Bd.notSynchronized Bd.returns (hb hby d9_78) (by decide) (⟨rfl, N0, e0⟩) (by decide) (by decide)
theorem own_noOE {Z : State} {a0 : Array Value} (hw : ∀ d ∈ tables_1, d.before a0 Z = true) : ∃ c t, Z.vm.findClass "java/lang/String" = some c ∧ Z.vm.findClass "com/example/covenant_atlas/covenantatlas/model/OutlineEntry" = some t ∧ Z.vm.assignable c t = false := by
  have w1 := (hw _ (List.mem_of_getElem? (i := 77) rfl))
  have w2 := (hw _ (List.mem_of_getElem? (i := 78) rfl))
  have w3 := (hw _ (List.mem_of_getElem? (i := 27) rfl))
  obtain ⟨cs, hcs⟩ := found_sup w1
  obtain ⟨p, k, kp, h1, h2, h3, h4, h5, -, h7⟩ := Cond.superclass_spec hcs w1
  obtain ⟨co, ko, j1, j2, j3, -, -⟩ := Cond.noSuperclass_spec w2
  obtain ⟨t, kt, i1, i2, i3, i4, -, -⟩ := Cond.instantiable_spec w3
  have i5 := (Bool.or_eq_false_iff.mp i4).1
  have n1 := ids_ne hcs i1 (by decide)
  cases j1.symm.trans h1
  have n2 := ids_ne j1 i1 (by decide)
  have m3 : ∀ fuel, Z.vm.isSubclassAux fuel p t = false := fun fuel => by
    cases fuel with
    | zero => rfl
    | succ f => simp [Vm.isSubclassAux, n2, j2, j3]
  have n3 : ∀ fuel, Z.vm.isSubclassAux fuel cs t = false := fun fuel => by
    cases fuel with
    | zero => rfl
    | succ f => simp [Vm.isSubclassAux, n1, h2, h4, m3]
  refine ⟨cs, t, hcs, i1, ?_⟩
  show Z.vm.assignableAux (255 + 1) cs t = false
  simp [Vm.assignableAux, n1, h2, i2, h5, i3, i5, Vm.isSubclass, n3]
def Q_rm9o (Z : State) (a1 : Addr) (a2 : Addr) (h0 : Heap) (n0 : Nat) (v : Option Value) (h : Heap) (L : List Loc) : Prop := v = some (.int (0 : Int32)) ∧ Fr n0 L ∧ h = h0
theorem ef_rm9o (m : MethodId) (x0 : Addr) (x1 : Addr) : entryFrame m #[(.ref x0), (.ref x1)] 3 = mkF m 0 #[.val (.ref x0), .val (.ref x1), .unset] [] := by first | (simp [entryFrame, mkF, argsToLocals, Value.category]; done) | rfl
set_option maxRecDepth 65536 in
set_option maxHeartbeats 40000000 in
theorem rm9o (l : Launch) (Z : State) (a0 : Array Value) (hw : ∀ d ∈ tables_1, d.before a0 Z = true) (ws : List Jvm.Cond) (a1 : Addr) (a2 : Addr) (h0 : Heap) (n0 : Nat) (E2 : Exa Z h0 a2 "java/lang/String") :
    MetFree l (⟨"com/example/covenant_atlas/covenantatlas/model/OutlineEntry", "equals", "(Ljava/lang/Object;)Z"⟩ : MethodName) (head1 (Jvm.Cond.code (⟨"com/example/covenant_atlas/covenantatlas/model/OutlineEntry", "equals", "(Ljava/lang/Object;)Z"⟩ : MethodName) prog_34_method_7_code 3 (some .boolean) :: ws) ({ frames := 0, cells := 0, slots := 0, locals := 0 } : Room)) (fun a U => a = #[(.ref a1), (.ref a2)] ∧ Z.Warmed39 U.vm ∧ U.heap = h0) (fun _ _ _ _ _ => True) (fun _ U o U' => ∃ v L, o = .returned v ∧ (Q_rm9o Z a1 a2 h0 n0) v U'.heap L ∧ FrameEnd U o U' L ({ frames := 0, cells := 0, slots := 0, locals := 0 } : Room).cells ({ frames := 0, cells := 0, slots := 0, locals := 0 } : Room).slots) := by
  refine MetFree.of_bodySF (plainFor_of_name pn_4) hisR ?_
  intro p e s m args below meth c s₁ Bd hml0 hP hK
  obtain ⟨rfl, hZ, hh⟩ := hP
  have hx := Bd.exec
  have hby := Bd.bytes
  have hml : c.maxLocals = 3 := hml0
  have hown : s.vm.findClass "com/example/covenant_atlas/covenantatlas/model/OutlineEntry" = some m.cls := findClass_of_methodNamed Bd.named
  have hnm := (name_of_methodNamed Bd.named Bd.method).1
  have X0 : Stand p l e ({ frames := 0, cells := 0, slots := 0, locals := 0 } : Room) s m #[(.ref a1), (.ref a2)] below meth c s₁ [] 0 0 := Stand.of_body Bd
  have e0 : s₁.heap = h0 := by rw [← hh, Bd.state]; rfl
  have N0 := Fr.nil n0
  show WP p e below (GG (Q_rm9o Z a1 a2 h0 n0) s ({ frames := 0, cells := 0, slots := 0, locals := 0 } : Room).cells ({ frames := 0, cells := 0, slots := 0, locals := 0 } : Room).slots) (s₁.setTop (entryFrame m #[(.ref a1), (.ref a2)] 3))
  rw [ef_rm9o m a1 a2]
  show WP p e below _ (s₁.setTop (mkF m 0 #[.val (.ref a1), .val (.ref a2), .unset] []))
  refine own_go (fun t_ k => XS.aloadN X0.here hx rfl (hb hby d9_0) rfl rfl k) ?_
  show WP p e below _ (s₁.setTop (mkF m 1 #[.val (.ref a1), .val (.ref a2), .unset] [(.ref a2)]))
  obtain ⟨T1, X1, e1, st1⟩ := instNo X0 hx hZ hown (hw _ (List.mem_of_getElem? (i := 64) rfl)) e0 E2 (own_noOE hw) (g := (mkF m 1 #[.val (.ref a1), .val (.ref a2), .unset] [(.ref a2)])) rfl rfl (hb hby d9_1)
  refine own_go st1 ?_
  show WP p e below _ (T1.setTop (mkF m 4 #[.val (.ref a1), .val (.ref a2), .unset] [(.int (0 : Int32))]))
  have hc4_2 : ((0 : Int32) = (0 : Int32)) := by decide
  refine own_go (fun t_ k => XS.ifYes X1.here hx rfl (pc0 := 4) (pc' := 77) rfl (hb hby d9_4) rfl ((if0 _ _).trans (teq hc4_2).1) (by decide) (by decide) k) ?_
  show WP p e below _ (T1.setTop (mkF m 77 #[.val (.ref a1), .val (.ref a2), .unset] []))
  refine own_go (fun t_ k => XS.iconst X1.here hx rfl (hb hby d9_77) k) ?_
  show WP p e below _ (T1.setTop (mkF m 78 #[.val (.ref a1), .val (.ref a2), .unset] [(.int (0 : Int32))]))
  exact own_retZ X1 hx Bd.notSynchronized Bd.returns (hb hby d9_78) (by decide) (⟨rfl, N0, e1⟩) (by decide) (by decide)
def T3 (x : Int32) : Prop := x = (0 : Int32) ∨ x = (1 : Int32) ∨ x = (2 : Int32)
def B8 (x : Int32) : Prop := 0 ≤ x.toInt ∧ x.toInt ≤ 255
def K5 (x : Int32) : Prop := 0 ≤ x.toInt ∧ x.toInt ≤ 4
theorem own_iteT {c : Prop} [Decidable c] {z x y : Int32} (hz : z = if c then x else y) (hx : T3 x) (hy : T3 y) : T3 z := by rw [hz]; split <;> assumption
theorem own_iteB {c : Prop} [Decidable c] {z x y : Int32} (hz : z = if c then x else y) (hx : B8 x) (hy : B8 y) : B8 z := by rw [hz]; split <;> assumption
theorem own_iteK {c : Prop} [Decidable c] {z x y : Int32} (hz : z = if c then x else y) (hx : K5 x) (hy : K5 y) : K5 z := by rw [hz]; split <;> assumption
theorem own_T {p v : Int32} (h : ((p &&& (3 : Int32)) % (3 : Int32)) = v) : T3 v := by
  have a := c_and p 3 (by decide)
  have b := (c_irem (p &&& (3 : Int32)) (3 : Int32) 3 (by decide)).1 a.1
  rw [h] at b
  simp only [T3, ← Int32.toInt_inj, show (0 : Int32).toInt = 0 from by decide, show (1 : Int32).toInt = 1 from by decide, show (2 : Int32).toInt = 2 from by decide]
  omega
theorem own_B {p v : Int32} (h : (p &&& (255 : Int32)) = v) : B8 v := by
  have a := c_and p 255 (by decide)
  have o : (255 : Int32).toInt = 255 := by decide
  rw [h] at a
  exact ⟨a.1, by omega⟩
theorem own_K {p v : Int32} (h : ((p &&& (7 : Int32)) % (5 : Int32)) = v) : K5 v := by
  have a := c_and p 7 (by decide)
  have b := (c_irem (p &&& (7 : Int32)) (5 : Int32) 5 (by decide)).1 a.1
  rw [h] at b
  simp only [K5]; omega
theorem own_kfN {p1 : Int32} {kq0 kq1 kq2 kq3 kq4 r b : Addr} (e : kf p1 kq0 kq1 kq2 kq3 kq4 = r) (h0 : kq0 ≠ b) (h1 : kq1 ≠ b) (h2 : kq2 ≠ b) (h3 : kq3 ≠ b) (h4 : kq4 ≠ b) : r ≠ b := by
  rw [← e, kf]; (repeat' split) <;> assumption
theorem own_same8 {a0 a1 b0 b1 la lb n m : Int32} {xs ys : List Value} (X : SX la a0 a1 n xs) (Y : SX lb b0 b1 m ys) (h0 : B8 a0) (h1 : B8 a1) (g0 : B8 b0) (g1 : B8 b1) : xs = ys ↔ ¬ f8 la a0 a1 lb b0 b1 = (0 : Int32) := by
  have e0 := own_bt h0 g0
  have e1 := own_bt h1 g1
  rcases X with ⟨rfl, -, rfl⟩ | ⟨rfl, -, rfl⟩ | ⟨rfl, -, rfl⟩ <;> rcases Y with ⟨rfl, -, rfl⟩ | ⟨rfl, -, rfl⟩ | ⟨rfl, -, rfl⟩ <;> simp only [f8] <;> by_cases q0 : a0 = b0 <;> by_cases q1 : a1 = b1 <;> simp_all
theorem EQ5.symm {r : Int32} {kd1 kd2 : Addr} {x1 x2 y1 y2 : List Value} {l1 l2 c1 c2 : Int32} (h : EQ5 r kd2 kd1 x2 x1 y2 y1 l2 l1 c2 c1) : EQ5 r kd1 kd2 x1 x2 y1 y2 l1 l2 c1 c2 :=
  ⟨h.1, h.2.trans ⟨fun ⟨a, b, c, d, e⟩ => ⟨a.symm, b.symm, c.symm, d.symm, e.symm⟩, fun ⟨a, b, c, d, e⟩ => ⟨a.symm, b.symm, c.symm, d.symm, e.symm⟩⟩⟩
theorem own_fin {r z ki1 ki2 f g : Int32} {kd1 kd2 : Addr} {x1 x2 y1 y2 : List Value} {l1 l2 c1 c2 : Int32} (E : EQ5 r kd1 kd2 x1 x2 y1 y2 l1 l2 c1 c2) (hk : kd1 = kd2 ↔ ki1 = ki2) (hf : x1 = x2 ↔ ¬ f = (0 : Int32)) (hg : y1 = y2 ↔ ¬ g = (0 : Int32))
    (hz : z = (if ki1 = ki2 then (if f = (0 : Int32) then (0 : Int32) else (if g = (0 : Int32) then (0 : Int32) else (if l1 = l2 then (if c1 = c2 then (1 : Int32) else (0 : Int32)) else (0 : Int32)))) else (0 : Int32))) : r = z := by
  obtain ⟨h1, h2⟩ := E
  rw [hk, hf, hg] at h2
  rw [hz]
  by_cases q1 : ki1 = ki2 <;> by_cases q2 : f = (0 : Int32) <;> by_cases q3 : g = (0 : Int32) <;> by_cases q4 : l1 = l2 <;> by_cases q5 : c1 = c2 <;> simp_all
theorem pd_8 : parseMethodDescriptor "(III)Ljava/lang/String;" = some ⟨[.int, .int, .int], some (.object "java/lang/String")⟩ := by decide +kernel
theorem pd_9 : parseMethodDescriptor "(I)Lcom/example/covenant_atlas/covenantatlas/model/PartKind;" = some ⟨[.int], some (.object "com/example/covenant_atlas/covenantatlas/model/PartKind")⟩ := by decide +kernel
theorem pd_10 : parseMethodDescriptor "(Lcom/example/covenant_atlas/covenantatlas/model/PartKind;Ljava/lang/String;Ljava/lang/String;II)V" = some ⟨[(.object "com/example/covenant_atlas/covenantatlas/model/PartKind"), (.object "java/lang/String"), (.object "java/lang/String"), .int, .int], none⟩ := by decide +kernel
theorem pd_11 : parseMethodDescriptor "(IIIIII)Z" = some ⟨[.int, .int, .int, .int, .int, .int], some .boolean⟩ := by decide +kernel
theorem ef_rm0 (m : MethodId) (x0 : Int32) (x1 : Int32) (x2 : Int32) (x3 : Int64) (x4 : Int64) : entryFrame m #[(.int x0), (.int x1), (.int x2), (.long x3), (.long x4)] maxLocals = mkF m 0 #[.val (.int x0), .val (.int x1), .val (.int x2), .val (.long x3), .second, .val (.long x4), .second, .unset, .unset, .unset, .unset, .unset, .unset, .unset, .unset, .unset, .unset, .unset, .unset, .unset, .unset, .unset, .unset, .unset, .unset, .unset, .unset, .unset, .unset, .unset, .unset, .unset, .unset, .unset, .unset, .unset, .unset, .unset, .unset, .unset, .unset, .unset, .unset, .unset, .unset] [] := by first | (simp [entryFrame, mkF, argsToLocals, Value.category, maxLocals]; done) | rfl
set_option maxRecDepth 65536 in
set_option maxHeartbeats 40000000 in
theorem rm0 (l : Launch) (Z : State) (a0 : Array Value) (hw : ∀ d ∈ tables_1, d.before a0 Z = true) (ws : List Jvm.Cond) (p1 : Int32) (p2 : Int32) (p3 : Int32) (q4 : Int64) (q5 : Int64) (cs : Int32) (kq0 : Addr) (kq1 : Addr) (kq2 : Addr) (kq3 : Addr) (kq4 : Addr) (h0 : Heap) (n0 : Nat) (Z0 : n0 ≤ h0.size) (S_c : Sta Z h0 "java/lang/String" "COMPACT_STRINGS" "Z" (.int cs)) (Sk0 : Sta Z h0 "com/example/covenant_atlas/covenantatlas/model/PartKind" "ARTICLE" "Lcom/example/covenant_atlas/covenantatlas/model/PartKind;" (.ref kq0)) (Ek0 : Exa Z h0 kq0 "com/example/covenant_atlas/covenantatlas/model/PartKind") (Sk1 : Sta Z h0 "com/example/covenant_atlas/covenantatlas/model/PartKind" "SECTION" "Lcom/example/covenant_atlas/covenantatlas/model/PartKind;" (.ref kq1)) (Ek1 : Exa Z h0 kq1 "com/example/covenant_atlas/covenantatlas/model/PartKind") (Sk2 : Sta Z h0 "com/example/covenant_atlas/covenantatlas/model/PartKind" "ANNEX" "Lcom/example/covenant_atlas/covenantatlas/model/PartKind;" (.ref kq2)) (Ek2 : Exa Z h0 kq2 "com/example/covenant_atlas/covenantatlas/model/PartKind") (Sk3 : Sta Z h0 "com/example/covenant_atlas/covenantatlas/model/PartKind" "SCHEDULE" "Lcom/example/covenant_atlas/covenantatlas/model/PartKind;" (.ref kq3)) (Ek3 : Exa Z h0 kq3 "com/example/covenant_atlas/covenantatlas/model/PartKind") (Sk4 : Sta Z h0 "com/example/covenant_atlas/covenantatlas/model/PartKind" "EXHIBIT" "Lcom/example/covenant_atlas/covenantatlas/model/PartKind;" (.ref kq4)) (Ek4 : Exa Z h0 kq4 "com/example/covenant_atlas/covenantatlas/model/PartKind") (hcs : ¬ cs = (0 : Int32)) (hKD : KD kq0 kq1 kq2 kq3 kq4) (hCz : CHv Z EL0 Z.vm h0) :
    MetFree l x (head1 (Jvm.Cond.code x code maxLocals ret :: ws) room_1) (fun a U => a = #[(.int p1), (.int p2), (.int p3), (.long q4), (.long q5)] ∧ Z = U ∧ U.heap = h0) (fun _ _ _ _ _ => True) (fun _ U o U' => ∃ v L, o = .returned v ∧ (Q0 n0) v U'.heap L ∧ ReturnedEndW U o U' L room_1.cells room_1.slots) := by
  refine MetFree.of_bodySF (plainFor_of_name pn_2) hisR ?_
  intro p e s m args below meth c s₁ Bd hml0 hP hK
  obtain ⟨rfl, hZ, hh⟩ := hP
  have hZs := hZ
  replace hZ : Z.Warmed39 s.vm := by rw [hZs]; exact State.Warmed39.refl s
  have hx := Bd.exec
  have hby := Bd.bytes
  have hml : c.maxLocals = 45 := hml0
  have hown : s.vm.findClass "com/example/covenant_atlas/covenantatlas/model/OutlineEntryEqualsPinLaw" = some m.cls := findClass_of_methodNamed Bd.named
  have hnm := (name_of_methodNamed Bd.named Bd.method).1
  have X0 : Stand p l e room_1 s m #[(.int p1), (.int p2), (.int p3), (.long q4), (.long q5)] below meth c s₁ [] 0 0 := Stand.of_body Bd
  have e0 : s₁.heap = h0 := by rw [← hh, Bd.state]; rfl
  have N0 := Fr.nil n0
  show WP p e below (GGW (Q0 n0) s room_1.cells room_1.slots) (s₁.setTop (entryFrame m #[(.int p1), (.int p2), (.int p3), (.long q4), (.long q5)] maxLocals))
  rw [ef_rm0 m p1 p2 p3 q4 q5]
  have hC0 : CHv Z EL0 s.vm h0 := by rw [← hZs]; exact hCz
  have hEL : EW Z a0 EL0 := own_EW hw
  show WP p e below _ (s₁.setTop (mkF m 0 #[.val (.int p1), .val (.int p2), .val (.int p3), .val (.long q4), .second, .val (.long q5), .second, .unset, .unset, .unset, .unset, .unset, .unset, .unset, .unset, .unset, .unset, .unset, .unset, .unset, .unset, .unset, .unset, .unset, .unset, .unset, .unset, .unset, .unset, .unset, .unset, .unset, .unset, .unset, .unset, .unset, .unset, .unset, .unset, .unset, .unset, .unset, .unset, .unset, .unset] []))
  refine own_go (fun t_ k => XS.iloadN X0.here hx rfl (hb hby at_0) rfl k) ?_
  show WP p e below _ (s₁.setTop (mkF m 1 #[.val (.int p1), .val (.int p2), .val (.int p3), .val (.long q4), .second, .val (.long q5), .second, .unset, .unset, .unset, .unset, .unset, .unset, .unset, .unset, .unset, .unset, .unset, .unset, .unset, .unset, .unset, .unset, .unset, .unset, .unset, .unset, .unset, .unset, .unset, .unset, .unset, .unset, .unset, .unset, .unset, .unset, .unset, .unset, .unset, .unset, .unset, .unset, .unset, .unset] [(.int p1)]))
  refine own_go (fun t_ k => XS.bipush X0.here hx rfl (hb hby at_1) k) ?_
  show WP p e below _ (s₁.setTop (mkF m 3 #[.val (.int p1), .val (.int p2), .val (.int p3), .val (.long q4), .second, .val (.long q5), .second, .unset, .unset, .unset, .unset, .unset, .unset, .unset, .unset, .unset, .unset, .unset, .unset, .unset, .unset, .unset, .unset, .unset, .unset, .unset, .unset, .unset, .unset, .unset, .unset, .unset, .unset, .unset, .unset, .unset, .unset, .unset, .unset, .unset, .unset, .unset, .unset, .unset, .unset] [(.int (6 : Int32)), (.int p1)]))
  refine own_go (fun t_ k => XS.iushr X0.here hx rfl (hb hby at_3) rfl k) ?_
  show WP p e below _ (s₁.setTop (mkF m 4 #[.val (.int p1), .val (.int p2), .val (.int p3), .val (.long q4), .second, .val (.long q5), .second, .unset, .unset, .unset, .unset, .unset, .unset, .unset, .unset, .unset, .unset, .unset, .unset, .unset, .unset, .unset, .unset, .unset, .unset, .unset, .unset, .unset, .unset, .unset, .unset, .unset, .unset, .unset, .unset, .unset, .unset, .unset, .unset, .unset, .unset, .unset, .unset, .unset, .unset] [(.int ((p1.toUInt32 >>> ((6 : Int32) &&& 31).toUInt32).toInt32))]))
  refine own_go (fun t_ k => XS.iconst X0.here hx rfl (hb hby at_4) k) ?_
  show WP p e below _ (s₁.setTop (mkF m 5 #[.val (.int p1), .val (.int p2), .val (.int p3), .val (.long q4), .second, .val (.long q5), .second, .unset, .unset, .unset, .unset, .unset, .unset, .unset, .unset, .unset, .unset, .unset, .unset, .unset, .unset, .unset, .unset, .unset, .unset, .unset, .unset, .unset, .unset, .unset, .unset, .unset, .unset, .unset, .unset, .unset, .unset, .unset, .unset, .unset, .unset, .unset, .unset, .unset, .unset] [(.int (1 : Int32)), (.int ((p1.toUInt32 >>> ((6 : Int32) &&& 31).toUInt32).toInt32))]))
  refine own_go (fun t_ k => XS.iand X0.here hx rfl (hb hby at_5) rfl k) ?_
  show WP p e below _ (s₁.setTop (mkF m 6 #[.val (.int p1), .val (.int p2), .val (.int p3), .val (.long q4), .second, .val (.long q5), .second, .unset, .unset, .unset, .unset, .unset, .unset, .unset, .unset, .unset, .unset, .unset, .unset, .unset, .unset, .unset, .unset, .unset, .unset, .unset, .unset, .unset, .unset, .unset, .unset, .unset, .unset, .unset, .unset, .unset, .unset, .unset, .unset, .unset, .unset, .unset, .unset, .unset, .unset] [(.int (((p1.toUInt32 >>> ((6 : Int32) &&& 31).toUInt32).toInt32) &&& (1 : Int32)))]))
  have J3 : ∀ (T3 : State) (ls3 : List Loc) (X3 : Stand p l e room_1 s m #[(.int p1), (.int p2), (.int p3), (.long q4), (.long q5)] below meth c T3 ls3 0 0) (N3 : Fr n0 ls3) (e3 : T3.heap = h0) (z2_S0 : Int32) (hz2_S0 : z2_S0 = (if (((p1.toUInt32 >>> ((6 : Int32) &&& 31).toUInt32).toInt32) &&& (1 : Int32)) = (0 : Int32) then (0 : Int32) else (1 : Int32))), WP p e below (GGW (Q0 n0) s room_1.cells room_1.slots) (T3.setTop (mkF m 14 #[.val (.int p1), .val (.int p2), .val (.int p3), .val (.long q4), .second, .val (.long q5), .second, .unset, .unset, .unset, .unset, .unset, .unset, .unset, .unset, .unset, .unset, .unset, .unset, .unset, .unset, .unset, .unset, .unset, .unset, .unset, .unset, .unset, .unset, .unset, .unset, .unset, .unset, .unset, .unset, .unset, .unset, .unset, .unset, .unset, .unset, .unset, .unset, .unset, .unset] [(.int z2_S0)])) := by
    intro T3 ls3 X3 N3 e3 z2_S0 hz2_S0
    show WP p e below _ (T3.setTop (mkF m 14 #[.val (.int p1), .val (.int p2), .val (.int p3), .val (.long q4), .second, .val (.long q5), .second, .unset, .unset, .unset, .unset, .unset, .unset, .unset, .unset, .unset, .unset, .unset, .unset, .unset, .unset, .unset, .unset, .unset, .unset, .unset, .unset, .unset, .unset, .unset, .unset, .unset, .unset, .unset, .unset, .unset, .unset, .unset, .unset, .unset, .unset, .unset, .unset, .unset, .unset] [(.int z2_S0)]))
    refine own_go (fun t_ k => XS.istore X3.here hx rfl (hb hby at_14) rfl (l' := #[.val (.int p1), .val (.int p2), .val (.int p3), .val (.long q4), .second, .val (.long q5), .second, .val (.int z2_S0), .unset, .unset, .unset, .unset, .unset, .unset, .unset, .unset, .unset, .unset, .unset, .unset, .unset, .unset, .unset, .unset, .unset, .unset, .unset, .unset, .unset, .unset, .unset, .unset, .unset, .unset, .unset, .unset, .unset, .unset, .unset, .unset, .unset, .unset, .unset, .unset, .unset]) rfl k) ?_
    show WP p e below _ (T3.setTop (mkF m 16 #[.val (.int p1), .val (.int p2), .val (.int p3), .val (.long q4), .second, .val (.long q5), .second, .val (.int z2_S0), .unset, .unset, .unset, .unset, .unset, .unset, .unset, .unset, .unset, .unset, .unset, .unset, .unset, .unset, .unset, .unset, .unset, .unset, .unset, .unset, .unset, .unset, .unset, .unset, .unset, .unset, .unset, .unset, .unset, .unset, .unset, .unset, .unset, .unset, .unset, .unset, .unset] []))
    refine own_go (fun t_ k => XS.iloadN X3.here hx rfl (hb hby at_16) rfl k) ?_
    show WP p e below _ (T3.setTop (mkF m 17 #[.val (.int p1), .val (.int p2), .val (.int p3), .val (.long q4), .second, .val (.long q5), .second, .val (.int z2_S0), .unset, .unset, .unset, .unset, .unset, .unset, .unset, .unset, .unset, .unset, .unset, .unset, .unset, .unset, .unset, .unset, .unset, .unset, .unset, .unset, .unset, .unset, .unset, .unset, .unset, .unset, .unset, .unset, .unset, .unset, .unset, .unset, .unset, .unset, .unset, .unset, .unset] [(.int p1)]))
    refine own_go (fun t_ k => XS.bipush X3.here hx rfl (hb hby at_17) k) ?_
    show WP p e below _ (T3.setTop (mkF m 19 #[.val (.int p1), .val (.int p2), .val (.int p3), .val (.long q4), .second, .val (.long q5), .second, .val (.int z2_S0), .unset, .unset, .unset, .unset, .unset, .unset, .unset, .unset, .unset, .unset, .unset, .unset, .unset, .unset, .unset, .unset, .unset, .unset, .unset, .unset, .unset, .unset, .unset, .unset, .unset, .unset, .unset, .unset, .unset, .unset, .unset, .unset, .unset, .unset, .unset, .unset, .unset] [(.int (7 : Int32)), (.int p1)]))
    refine own_go (fun t_ k => XS.iushr X3.here hx rfl (hb hby at_19) rfl k) ?_
    show WP p e below _ (T3.setTop (mkF m 20 #[.val (.int p1), .val (.int p2), .val (.int p3), .val (.long q4), .second, .val (.long q5), .second, .val (.int z2_S0), .unset, .unset, .unset, .unset, .unset, .unset, .unset, .unset, .unset, .unset, .unset, .unset, .unset, .unset, .unset, .unset, .unset, .unset, .unset, .unset, .unset, .unset, .unset, .unset, .unset, .unset, .unset, .unset, .unset, .unset, .unset, .unset, .unset, .unset, .unset, .unset, .unset] [(.int ((p1.toUInt32 >>> ((7 : Int32) &&& 31).toUInt32).toInt32))]))
    refine own_go (fun t_ k => XS.iconst X3.here hx rfl (hb hby at_20) k) ?_
    show WP p e below _ (T3.setTop (mkF m 21 #[.val (.int p1), .val (.int p2), .val (.int p3), .val (.long q4), .second, .val (.long q5), .second, .val (.int z2_S0), .unset, .unset, .unset, .unset, .unset, .unset, .unset, .unset, .unset, .unset, .unset, .unset, .unset, .unset, .unset, .unset, .unset, .unset, .unset, .unset, .unset, .unset, .unset, .unset, .unset, .unset, .unset, .unset, .unset, .unset, .unset, .unset, .unset, .unset, .unset, .unset, .unset] [(.int (1 : Int32)), (.int ((p1.toUInt32 >>> ((7 : Int32) &&& 31).toUInt32).toInt32))]))
    refine own_go (fun t_ k => XS.iand X3.here hx rfl (hb hby at_21) rfl k) ?_
    show WP p e below _ (T3.setTop (mkF m 22 #[.val (.int p1), .val (.int p2), .val (.int p3), .val (.long q4), .second, .val (.long q5), .second, .val (.int z2_S0), .unset, .unset, .unset, .unset, .unset, .unset, .unset, .unset, .unset, .unset, .unset, .unset, .unset, .unset, .unset, .unset, .unset, .unset, .unset, .unset, .unset, .unset, .unset, .unset, .unset, .unset, .unset, .unset, .unset, .unset, .unset, .unset, .unset, .unset, .unset, .unset, .unset] [(.int (((p1.toUInt32 >>> ((7 : Int32) &&& 31).toUInt32).toInt32) &&& (1 : Int32)))]))
    have J6 : ∀ (T6 : State) (ls6 : List Loc) (X6 : Stand p l e room_1 s m #[(.int p1), (.int p2), (.int p3), (.long q4), (.long q5)] below meth c T6 ls6 0 0) (N6 : Fr n0 ls6) (e6 : T6.heap = h0) (z5_S0 : Int32) (hz5_S0 : z5_S0 = (if (((p1.toUInt32 >>> ((7 : Int32) &&& 31).toUInt32).toInt32) &&& (1 : Int32)) = (0 : Int32) then (0 : Int32) else (1 : Int32))), WP p e below (GGW (Q0 n0) s room_1.cells room_1.slots) (T6.setTop (mkF m 30 #[.val (.int p1), .val (.int p2), .val (.int p3), .val (.long q4), .second, .val (.long q5), .second, .val (.int z2_S0), .unset, .unset, .unset, .unset, .unset, .unset, .unset, .unset, .unset, .unset, .unset, .unset, .unset, .unset, .unset, .unset, .unset, .unset, .unset, .unset, .unset, .unset, .unset, .unset, .unset, .unset, .unset, .unset, .unset, .unset, .unset, .unset, .unset, .unset, .unset, .unset, .unset] [(.int z5_S0)])) := by
      intro T6 ls6 X6 N6 e6 z5_S0 hz5_S0
      show WP p e below _ (T6.setTop (mkF m 30 #[.val (.int p1), .val (.int p2), .val (.int p3), .val (.long q4), .second, .val (.long q5), .second, .val (.int z2_S0), .unset, .unset, .unset, .unset, .unset, .unset, .unset, .unset, .unset, .unset, .unset, .unset, .unset, .unset, .unset, .unset, .unset, .unset, .unset, .unset, .unset, .unset, .unset, .unset, .unset, .unset, .unset, .unset, .unset, .unset, .unset, .unset, .unset, .unset, .unset, .unset, .unset] [(.int z5_S0)]))
      refine own_go (fun t_ k => XS.istore X6.here hx rfl (hb hby at_30) rfl (l' := #[.val (.int p1), .val (.int p2), .val (.int p3), .val (.long q4), .second, .val (.long q5), .second, .val (.int z2_S0), .val (.int z5_S0), .unset, .unset, .unset, .unset, .unset, .unset, .unset, .unset, .unset, .unset, .unset, .unset, .unset, .unset, .unset, .unset, .unset, .unset, .unset, .unset, .unset, .unset, .unset, .unset, .unset, .unset, .unset, .unset, .unset, .unset, .unset, .unset, .unset, .unset, .unset, .unset]) rfl k) ?_
      show WP p e below _ (T6.setTop (mkF m 32 #[.val (.int p1), .val (.int p2), .val (.int p3), .val (.long q4), .second, .val (.long q5), .second, .val (.int z2_S0), .val (.int z5_S0), .unset, .unset, .unset, .unset, .unset, .unset, .unset, .unset, .unset, .unset, .unset, .unset, .unset, .unset, .unset, .unset, .unset, .unset, .unset, .unset, .unset, .unset, .unset, .unset, .unset, .unset, .unset, .unset, .unset, .unset, .unset, .unset, .unset, .unset, .unset, .unset] []))
      refine own_go (fun t_ k => XS.iloadN X6.here hx rfl (hb hby at_32) rfl k) ?_
      show WP p e below _ (T6.setTop (mkF m 33 #[.val (.int p1), .val (.int p2), .val (.int p3), .val (.long q4), .second, .val (.long q5), .second, .val (.int z2_S0), .val (.int z5_S0), .unset, .unset, .unset, .unset, .unset, .unset, .unset, .unset, .unset, .unset, .unset, .unset, .unset, .unset, .unset, .unset, .unset, .unset, .unset, .unset, .unset, .unset, .unset, .unset, .unset, .unset, .unset, .unset, .unset, .unset, .unset, .unset, .unset, .unset, .unset, .unset] [(.int p1)]))
      refine own_go (fun t_ k => XS.bipush X6.here hx rfl (hb hby at_33) k) ?_
      show WP p e below _ (T6.setTop (mkF m 35 #[.val (.int p1), .val (.int p2), .val (.int p3), .val (.long q4), .second, .val (.long q5), .second, .val (.int z2_S0), .val (.int z5_S0), .unset, .unset, .unset, .unset, .unset, .unset, .unset, .unset, .unset, .unset, .unset, .unset, .unset, .unset, .unset, .unset, .unset, .unset, .unset, .unset, .unset, .unset, .unset, .unset, .unset, .unset, .unset, .unset, .unset, .unset, .unset, .unset, .unset, .unset, .unset, .unset] [(.int (8 : Int32)), (.int p1)]))
      refine own_go (fun t_ k => XS.iushr X6.here hx rfl (hb hby at_35) rfl k) ?_
      show WP p e below _ (T6.setTop (mkF m 36 #[.val (.int p1), .val (.int p2), .val (.int p3), .val (.long q4), .second, .val (.long q5), .second, .val (.int z2_S0), .val (.int z5_S0), .unset, .unset, .unset, .unset, .unset, .unset, .unset, .unset, .unset, .unset, .unset, .unset, .unset, .unset, .unset, .unset, .unset, .unset, .unset, .unset, .unset, .unset, .unset, .unset, .unset, .unset, .unset, .unset, .unset, .unset, .unset, .unset, .unset, .unset, .unset, .unset] [(.int ((p1.toUInt32 >>> ((8 : Int32) &&& 31).toUInt32).toInt32))]))
      refine own_go (fun t_ k => XS.iconst X6.here hx rfl (hb hby at_36) k) ?_
      show WP p e below _ (T6.setTop (mkF m 37 #[.val (.int p1), .val (.int p2), .val (.int p3), .val (.long q4), .second, .val (.long q5), .second, .val (.int z2_S0), .val (.int z5_S0), .unset, .unset, .unset, .unset, .unset, .unset, .unset, .unset, .unset, .unset, .unset, .unset, .unset, .unset, .unset, .unset, .unset, .unset, .unset, .unset, .unset, .unset, .unset, .unset, .unset, .unset, .unset, .unset, .unset, .unset, .unset, .unset, .unset, .unset, .unset, .unset] [(.int (1 : Int32)), (.int ((p1.toUInt32 >>> ((8 : Int32) &&& 31).toUInt32).toInt32))]))
      refine own_go (fun t_ k => XS.iand X6.here hx rfl (hb hby at_37) rfl k) ?_
      show WP p e below _ (T6.setTop (mkF m 38 #[.val (.int p1), .val (.int p2), .val (.int p3), .val (.long q4), .second, .val (.long q5), .second, .val (.int z2_S0), .val (.int z5_S0), .unset, .unset, .unset, .unset, .unset, .unset, .unset, .unset, .unset, .unset, .unset, .unset, .unset, .unset, .unset, .unset, .unset, .unset, .unset, .unset, .unset, .unset, .unset, .unset, .unset, .unset, .unset, .unset, .unset, .unset, .unset, .unset, .unset, .unset, .unset, .unset] [(.int (((p1.toUInt32 >>> ((8 : Int32) &&& 31).toUInt32).toInt32) &&& (1 : Int32)))]))
      have J9 : ∀ (T9 : State) (ls9 : List Loc) (X9 : Stand p l e room_1 s m #[(.int p1), (.int p2), (.int p3), (.long q4), (.long q5)] below meth c T9 ls9 0 0) (N9 : Fr n0 ls9) (e9 : T9.heap = h0) (z8_S0 : Int32) (hz8_S0 : z8_S0 = (if (((p1.toUInt32 >>> ((8 : Int32) &&& 31).toUInt32).toInt32) &&& (1 : Int32)) = (0 : Int32) then (0 : Int32) else (1 : Int32))), WP p e below (GGW (Q0 n0) s room_1.cells room_1.slots) (T9.setTop (mkF m 46 #[.val (.int p1), .val (.int p2), .val (.int p3), .val (.long q4), .second, .val (.long q5), .second, .val (.int z2_S0), .val (.int z5_S0), .unset, .unset, .unset, .unset, .unset, .unset, .unset, .unset, .unset, .unset, .unset, .unset, .unset, .unset, .unset, .unset, .unset, .unset, .unset, .unset, .unset, .unset, .unset, .unset, .unset, .unset, .unset, .unset, .unset, .unset, .unset, .unset, .unset, .unset, .unset, .unset] [(.int z8_S0)])) := by
        intro T9 ls9 X9 N9 e9 z8_S0 hz8_S0
        show WP p e below _ (T9.setTop (mkF m 46 #[.val (.int p1), .val (.int p2), .val (.int p3), .val (.long q4), .second, .val (.long q5), .second, .val (.int z2_S0), .val (.int z5_S0), .unset, .unset, .unset, .unset, .unset, .unset, .unset, .unset, .unset, .unset, .unset, .unset, .unset, .unset, .unset, .unset, .unset, .unset, .unset, .unset, .unset, .unset, .unset, .unset, .unset, .unset, .unset, .unset, .unset, .unset, .unset, .unset, .unset, .unset, .unset, .unset] [(.int z8_S0)]))
        refine own_go (fun t_ k => XS.istore X9.here hx rfl (hb hby at_46) rfl (l' := #[.val (.int p1), .val (.int p2), .val (.int p3), .val (.long q4), .second, .val (.long q5), .second, .val (.int z2_S0), .val (.int z5_S0), .val (.int z8_S0), .unset, .unset, .unset, .unset, .unset, .unset, .unset, .unset, .unset, .unset, .unset, .unset, .unset, .unset, .unset, .unset, .unset, .unset, .unset, .unset, .unset, .unset, .unset, .unset, .unset, .unset, .unset, .unset, .unset, .unset, .unset, .unset, .unset, .unset, .unset]) rfl k) ?_
        show WP p e below _ (T9.setTop (mkF m 48 #[.val (.int p1), .val (.int p2), .val (.int p3), .val (.long q4), .second, .val (.long q5), .second, .val (.int z2_S0), .val (.int z5_S0), .val (.int z8_S0), .unset, .unset, .unset, .unset, .unset, .unset, .unset, .unset, .unset, .unset, .unset, .unset, .unset, .unset, .unset, .unset, .unset, .unset, .unset, .unset, .unset, .unset, .unset, .unset, .unset, .unset, .unset, .unset, .unset, .unset, .unset, .unset, .unset, .unset, .unset] []))
        refine own_go (fun t_ k => XS.iloadN X9.here hx rfl (hb hby at_48) rfl k) ?_
        show WP p e below _ (T9.setTop (mkF m 49 #[.val (.int p1), .val (.int p2), .val (.int p3), .val (.long q4), .second, .val (.long q5), .second, .val (.int z2_S0), .val (.int z5_S0), .val (.int z8_S0), .unset, .unset, .unset, .unset, .unset, .unset, .unset, .unset, .unset, .unset, .unset, .unset, .unset, .unset, .unset, .unset, .unset, .unset, .unset, .unset, .unset, .unset, .unset, .unset, .unset, .unset, .unset, .unset, .unset, .unset, .unset, .unset, .unset, .unset, .unset] [(.int p1)]))
        refine own_go (fun t_ k => XS.bipush X9.here hx rfl (hb hby at_49) k) ?_
        show WP p e below _ (T9.setTop (mkF m 51 #[.val (.int p1), .val (.int p2), .val (.int p3), .val (.long q4), .second, .val (.long q5), .second, .val (.int z2_S0), .val (.int z5_S0), .val (.int z8_S0), .unset, .unset, .unset, .unset, .unset, .unset, .unset, .unset, .unset, .unset, .unset, .unset, .unset, .unset, .unset, .unset, .unset, .unset, .unset, .unset, .unset, .unset, .unset, .unset, .unset, .unset, .unset, .unset, .unset, .unset, .unset, .unset, .unset, .unset, .unset] [(.int (9 : Int32)), (.int p1)]))
        refine own_go (fun t_ k => XS.iushr X9.here hx rfl (hb hby at_51) rfl k) ?_
        show WP p e below _ (T9.setTop (mkF m 52 #[.val (.int p1), .val (.int p2), .val (.int p3), .val (.long q4), .second, .val (.long q5), .second, .val (.int z2_S0), .val (.int z5_S0), .val (.int z8_S0), .unset, .unset, .unset, .unset, .unset, .unset, .unset, .unset, .unset, .unset, .unset, .unset, .unset, .unset, .unset, .unset, .unset, .unset, .unset, .unset, .unset, .unset, .unset, .unset, .unset, .unset, .unset, .unset, .unset, .unset, .unset, .unset, .unset, .unset, .unset] [(.int ((p1.toUInt32 >>> ((9 : Int32) &&& 31).toUInt32).toInt32))]))
        refine own_go (fun t_ k => XS.iconst X9.here hx rfl (hb hby at_52) k) ?_
        show WP p e below _ (T9.setTop (mkF m 53 #[.val (.int p1), .val (.int p2), .val (.int p3), .val (.long q4), .second, .val (.long q5), .second, .val (.int z2_S0), .val (.int z5_S0), .val (.int z8_S0), .unset, .unset, .unset, .unset, .unset, .unset, .unset, .unset, .unset, .unset, .unset, .unset, .unset, .unset, .unset, .unset, .unset, .unset, .unset, .unset, .unset, .unset, .unset, .unset, .unset, .unset, .unset, .unset, .unset, .unset, .unset, .unset, .unset, .unset, .unset] [(.int (1 : Int32)), (.int ((p1.toUInt32 >>> ((9 : Int32) &&& 31).toUInt32).toInt32))]))
        refine own_go (fun t_ k => XS.iand X9.here hx rfl (hb hby at_53) rfl k) ?_
        show WP p e below _ (T9.setTop (mkF m 54 #[.val (.int p1), .val (.int p2), .val (.int p3), .val (.long q4), .second, .val (.long q5), .second, .val (.int z2_S0), .val (.int z5_S0), .val (.int z8_S0), .unset, .unset, .unset, .unset, .unset, .unset, .unset, .unset, .unset, .unset, .unset, .unset, .unset, .unset, .unset, .unset, .unset, .unset, .unset, .unset, .unset, .unset, .unset, .unset, .unset, .unset, .unset, .unset, .unset, .unset, .unset, .unset, .unset, .unset, .unset] [(.int (((p1.toUInt32 >>> ((9 : Int32) &&& 31).toUInt32).toInt32) &&& (1 : Int32)))]))
        have J12 : ∀ (T12 : State) (ls12 : List Loc) (X12 : Stand p l e room_1 s m #[(.int p1), (.int p2), (.int p3), (.long q4), (.long q5)] below meth c T12 ls12 0 0) (N12 : Fr n0 ls12) (e12 : T12.heap = h0) (z11_S0 : Int32) (hz11_S0 : z11_S0 = (if (((p1.toUInt32 >>> ((9 : Int32) &&& 31).toUInt32).toInt32) &&& (1 : Int32)) = (0 : Int32) then (0 : Int32) else (1 : Int32))), WP p e below (GGW (Q0 n0) s room_1.cells room_1.slots) (T12.setTop (mkF m 62 #[.val (.int p1), .val (.int p2), .val (.int p3), .val (.long q4), .second, .val (.long q5), .second, .val (.int z2_S0), .val (.int z5_S0), .val (.int z8_S0), .unset, .unset, .unset, .unset, .unset, .unset, .unset, .unset, .unset, .unset, .unset, .unset, .unset, .unset, .unset, .unset, .unset, .unset, .unset, .unset, .unset, .unset, .unset, .unset, .unset, .unset, .unset, .unset, .unset, .unset, .unset, .unset, .unset, .unset, .unset] [(.int z11_S0)])) := by
          intro T12 ls12 X12 N12 e12 z11_S0 hz11_S0
          show WP p e below _ (T12.setTop (mkF m 62 #[.val (.int p1), .val (.int p2), .val (.int p3), .val (.long q4), .second, .val (.long q5), .second, .val (.int z2_S0), .val (.int z5_S0), .val (.int z8_S0), .unset, .unset, .unset, .unset, .unset, .unset, .unset, .unset, .unset, .unset, .unset, .unset, .unset, .unset, .unset, .unset, .unset, .unset, .unset, .unset, .unset, .unset, .unset, .unset, .unset, .unset, .unset, .unset, .unset, .unset, .unset, .unset, .unset, .unset, .unset] [(.int z11_S0)]))
          refine own_go (fun t_ k => XS.istore X12.here hx rfl (hb hby at_62) rfl (l' := #[.val (.int p1), .val (.int p2), .val (.int p3), .val (.long q4), .second, .val (.long q5), .second, .val (.int z2_S0), .val (.int z5_S0), .val (.int z8_S0), .val (.int z11_S0), .unset, .unset, .unset, .unset, .unset, .unset, .unset, .unset, .unset, .unset, .unset, .unset, .unset, .unset, .unset, .unset, .unset, .unset, .unset, .unset, .unset, .unset, .unset, .unset, .unset, .unset, .unset, .unset, .unset, .unset, .unset, .unset, .unset, .unset]) rfl k) ?_
          show WP p e below _ (T12.setTop (mkF m 64 #[.val (.int p1), .val (.int p2), .val (.int p3), .val (.long q4), .second, .val (.long q5), .second, .val (.int z2_S0), .val (.int z5_S0), .val (.int z8_S0), .val (.int z11_S0), .unset, .unset, .unset, .unset, .unset, .unset, .unset, .unset, .unset, .unset, .unset, .unset, .unset, .unset, .unset, .unset, .unset, .unset, .unset, .unset, .unset, .unset, .unset, .unset, .unset, .unset, .unset, .unset, .unset, .unset, .unset, .unset, .unset, .unset] []))
          refine own_go (fun t_ k => XS.iloadN X12.here hx rfl (hb hby at_64) rfl k) ?_
          show WP p e below _ (T12.setTop (mkF m 65 #[.val (.int p1), .val (.int p2), .val (.int p3), .val (.long q4), .second, .val (.long q5), .second, .val (.int z2_S0), .val (.int z5_S0), .val (.int z8_S0), .val (.int z11_S0), .unset, .unset, .unset, .unset, .unset, .unset, .unset, .unset, .unset, .unset, .unset, .unset, .unset, .unset, .unset, .unset, .unset, .unset, .unset, .unset, .unset, .unset, .unset, .unset, .unset, .unset, .unset, .unset, .unset, .unset, .unset, .unset, .unset, .unset] [(.int p1)]))
          refine own_go (fun t_ k => XS.bipush X12.here hx rfl (hb hby at_65) k) ?_
          show WP p e below _ (T12.setTop (mkF m 67 #[.val (.int p1), .val (.int p2), .val (.int p3), .val (.long q4), .second, .val (.long q5), .second, .val (.int z2_S0), .val (.int z5_S0), .val (.int z8_S0), .val (.int z11_S0), .unset, .unset, .unset, .unset, .unset, .unset, .unset, .unset, .unset, .unset, .unset, .unset, .unset, .unset, .unset, .unset, .unset, .unset, .unset, .unset, .unset, .unset, .unset, .unset, .unset, .unset, .unset, .unset, .unset, .unset, .unset, .unset, .unset, .unset] [(.int (10 : Int32)), (.int p1)]))
          refine own_go (fun t_ k => XS.iushr X12.here hx rfl (hb hby at_67) rfl k) ?_
          show WP p e below _ (T12.setTop (mkF m 68 #[.val (.int p1), .val (.int p2), .val (.int p3), .val (.long q4), .second, .val (.long q5), .second, .val (.int z2_S0), .val (.int z5_S0), .val (.int z8_S0), .val (.int z11_S0), .unset, .unset, .unset, .unset, .unset, .unset, .unset, .unset, .unset, .unset, .unset, .unset, .unset, .unset, .unset, .unset, .unset, .unset, .unset, .unset, .unset, .unset, .unset, .unset, .unset, .unset, .unset, .unset, .unset, .unset, .unset, .unset, .unset, .unset] [(.int ((p1.toUInt32 >>> ((10 : Int32) &&& 31).toUInt32).toInt32))]))
          refine own_go (fun t_ k => XS.iconst X12.here hx rfl (hb hby at_68) k) ?_
          show WP p e below _ (T12.setTop (mkF m 69 #[.val (.int p1), .val (.int p2), .val (.int p3), .val (.long q4), .second, .val (.long q5), .second, .val (.int z2_S0), .val (.int z5_S0), .val (.int z8_S0), .val (.int z11_S0), .unset, .unset, .unset, .unset, .unset, .unset, .unset, .unset, .unset, .unset, .unset, .unset, .unset, .unset, .unset, .unset, .unset, .unset, .unset, .unset, .unset, .unset, .unset, .unset, .unset, .unset, .unset, .unset, .unset, .unset, .unset, .unset, .unset, .unset] [(.int (1 : Int32)), (.int ((p1.toUInt32 >>> ((10 : Int32) &&& 31).toUInt32).toInt32))]))
          refine own_go (fun t_ k => XS.iand X12.here hx rfl (hb hby at_69) rfl k) ?_
          show WP p e below _ (T12.setTop (mkF m 70 #[.val (.int p1), .val (.int p2), .val (.int p3), .val (.long q4), .second, .val (.long q5), .second, .val (.int z2_S0), .val (.int z5_S0), .val (.int z8_S0), .val (.int z11_S0), .unset, .unset, .unset, .unset, .unset, .unset, .unset, .unset, .unset, .unset, .unset, .unset, .unset, .unset, .unset, .unset, .unset, .unset, .unset, .unset, .unset, .unset, .unset, .unset, .unset, .unset, .unset, .unset, .unset, .unset, .unset, .unset, .unset, .unset] [(.int (((p1.toUInt32 >>> ((10 : Int32) &&& 31).toUInt32).toInt32) &&& (1 : Int32)))]))
          have J15 : ∀ (T15 : State) (ls15 : List Loc) (X15 : Stand p l e room_1 s m #[(.int p1), (.int p2), (.int p3), (.long q4), (.long q5)] below meth c T15 ls15 0 0) (N15 : Fr n0 ls15) (e15 : T15.heap = h0) (z14_S0 : Int32) (hz14_S0 : z14_S0 = (if (((p1.toUInt32 >>> ((10 : Int32) &&& 31).toUInt32).toInt32) &&& (1 : Int32)) = (0 : Int32) then (0 : Int32) else (1 : Int32))), WP p e below (GGW (Q0 n0) s room_1.cells room_1.slots) (T15.setTop (mkF m 78 #[.val (.int p1), .val (.int p2), .val (.int p3), .val (.long q4), .second, .val (.long q5), .second, .val (.int z2_S0), .val (.int z5_S0), .val (.int z8_S0), .val (.int z11_S0), .unset, .unset, .unset, .unset, .unset, .unset, .unset, .unset, .unset, .unset, .unset, .unset, .unset, .unset, .unset, .unset, .unset, .unset, .unset, .unset, .unset, .unset, .unset, .unset, .unset, .unset, .unset, .unset, .unset, .unset, .unset, .unset, .unset, .unset] [(.int z14_S0)])) := by
            intro T15 ls15 X15 N15 e15 z14_S0 hz14_S0
            show WP p e below _ (T15.setTop (mkF m 78 #[.val (.int p1), .val (.int p2), .val (.int p3), .val (.long q4), .second, .val (.long q5), .second, .val (.int z2_S0), .val (.int z5_S0), .val (.int z8_S0), .val (.int z11_S0), .unset, .unset, .unset, .unset, .unset, .unset, .unset, .unset, .unset, .unset, .unset, .unset, .unset, .unset, .unset, .unset, .unset, .unset, .unset, .unset, .unset, .unset, .unset, .unset, .unset, .unset, .unset, .unset, .unset, .unset, .unset, .unset, .unset, .unset] [(.int z14_S0)]))
            refine own_go (fun t_ k => XS.istore X15.here hx rfl (hb hby at_78) rfl (l' := #[.val (.int p1), .val (.int p2), .val (.int p3), .val (.long q4), .second, .val (.long q5), .second, .val (.int z2_S0), .val (.int z5_S0), .val (.int z8_S0), .val (.int z11_S0), .val (.int z14_S0), .unset, .unset, .unset, .unset, .unset, .unset, .unset, .unset, .unset, .unset, .unset, .unset, .unset, .unset, .unset, .unset, .unset, .unset, .unset, .unset, .unset, .unset, .unset, .unset, .unset, .unset, .unset, .unset, .unset, .unset, .unset, .unset, .unset]) rfl k) ?_
            show WP p e below _ (T15.setTop (mkF m 80 #[.val (.int p1), .val (.int p2), .val (.int p3), .val (.long q4), .second, .val (.long q5), .second, .val (.int z2_S0), .val (.int z5_S0), .val (.int z8_S0), .val (.int z11_S0), .val (.int z14_S0), .unset, .unset, .unset, .unset, .unset, .unset, .unset, .unset, .unset, .unset, .unset, .unset, .unset, .unset, .unset, .unset, .unset, .unset, .unset, .unset, .unset, .unset, .unset, .unset, .unset, .unset, .unset, .unset, .unset, .unset, .unset, .unset, .unset] []))
            refine own_go (fun t_ k => XS.iloadN X15.here hx rfl (hb hby at_80) rfl k) ?_
            show WP p e below _ (T15.setTop (mkF m 81 #[.val (.int p1), .val (.int p2), .val (.int p3), .val (.long q4), .second, .val (.long q5), .second, .val (.int z2_S0), .val (.int z5_S0), .val (.int z8_S0), .val (.int z11_S0), .val (.int z14_S0), .unset, .unset, .unset, .unset, .unset, .unset, .unset, .unset, .unset, .unset, .unset, .unset, .unset, .unset, .unset, .unset, .unset, .unset, .unset, .unset, .unset, .unset, .unset, .unset, .unset, .unset, .unset, .unset, .unset, .unset, .unset, .unset, .unset] [(.int p1)]))
            refine own_go (fun t_ k => XS.bipush X15.here hx rfl (hb hby at_81) k) ?_
            show WP p e below _ (T15.setTop (mkF m 83 #[.val (.int p1), .val (.int p2), .val (.int p3), .val (.long q4), .second, .val (.long q5), .second, .val (.int z2_S0), .val (.int z5_S0), .val (.int z8_S0), .val (.int z11_S0), .val (.int z14_S0), .unset, .unset, .unset, .unset, .unset, .unset, .unset, .unset, .unset, .unset, .unset, .unset, .unset, .unset, .unset, .unset, .unset, .unset, .unset, .unset, .unset, .unset, .unset, .unset, .unset, .unset, .unset, .unset, .unset, .unset, .unset, .unset, .unset] [(.int (7 : Int32)), (.int p1)]))
            refine own_go (fun t_ k => XS.iand X15.here hx rfl (hb hby at_83) rfl k) ?_
            show WP p e below _ (T15.setTop (mkF m 84 #[.val (.int p1), .val (.int p2), .val (.int p3), .val (.long q4), .second, .val (.long q5), .second, .val (.int z2_S0), .val (.int z5_S0), .val (.int z8_S0), .val (.int z11_S0), .val (.int z14_S0), .unset, .unset, .unset, .unset, .unset, .unset, .unset, .unset, .unset, .unset, .unset, .unset, .unset, .unset, .unset, .unset, .unset, .unset, .unset, .unset, .unset, .unset, .unset, .unset, .unset, .unset, .unset, .unset, .unset, .unset, .unset, .unset, .unset] [(.int (p1 &&& (7 : Int32)))]))
            refine own_go (fun t_ k => XS.iconst X15.here hx rfl (hb hby at_84) k) ?_
            show WP p e below _ (T15.setTop (mkF m 85 #[.val (.int p1), .val (.int p2), .val (.int p3), .val (.long q4), .second, .val (.long q5), .second, .val (.int z2_S0), .val (.int z5_S0), .val (.int z8_S0), .val (.int z11_S0), .val (.int z14_S0), .unset, .unset, .unset, .unset, .unset, .unset, .unset, .unset, .unset, .unset, .unset, .unset, .unset, .unset, .unset, .unset, .unset, .unset, .unset, .unset, .unset, .unset, .unset, .unset, .unset, .unset, .unset, .unset, .unset, .unset, .unset, .unset, .unset] [(.int (5 : Int32)), (.int (p1 &&& (7 : Int32)))]))
            refine own_go (fun t_ k => iremM X15 hx rfl (hb hby at_85) rfl (by decide) k) ?_
            show WP p e below _ (T15.setTop (mkF m 86 #[.val (.int p1), .val (.int p2), .val (.int p3), .val (.long q4), .second, .val (.long q5), .second, .val (.int z2_S0), .val (.int z5_S0), .val (.int z8_S0), .val (.int z11_S0), .val (.int z14_S0), .unset, .unset, .unset, .unset, .unset, .unset, .unset, .unset, .unset, .unset, .unset, .unset, .unset, .unset, .unset, .unset, .unset, .unset, .unset, .unset, .unset, .unset, .unset, .unset, .unset, .unset, .unset, .unset, .unset, .unset, .unset, .unset, .unset] [(.int ((p1 &&& (7 : Int32)) % (5 : Int32)))]))
            refine own_go (fun t_ k => XS.istore X15.here hx rfl (hb hby at_86) rfl (l' := #[.val (.int p1), .val (.int p2), .val (.int p3), .val (.long q4), .second, .val (.long q5), .second, .val (.int z2_S0), .val (.int z5_S0), .val (.int z8_S0), .val (.int z11_S0), .val (.int z14_S0), .val (.int ((p1 &&& (7 : Int32)) % (5 : Int32))), .unset, .unset, .unset, .unset, .unset, .unset, .unset, .unset, .unset, .unset, .unset, .unset, .unset, .unset, .unset, .unset, .unset, .unset, .unset, .unset, .unset, .unset, .unset, .unset, .unset, .unset, .unset, .unset, .unset, .unset, .unset, .unset]) rfl k) ?_
            show WP p e below _ (T15.setTop (mkF m 88 #[.val (.int p1), .val (.int p2), .val (.int p3), .val (.long q4), .second, .val (.long q5), .second, .val (.int z2_S0), .val (.int z5_S0), .val (.int z8_S0), .val (.int z11_S0), .val (.int z14_S0), .val (.int ((p1 &&& (7 : Int32)) % (5 : Int32))), .unset, .unset, .unset, .unset, .unset, .unset, .unset, .unset, .unset, .unset, .unset, .unset, .unset, .unset, .unset, .unset, .unset, .unset, .unset, .unset, .unset, .unset, .unset, .unset, .unset, .unset, .unset, .unset, .unset, .unset, .unset, .unset] []))
            generalize he16 : ((p1 &&& (7 : Int32)) % (5 : Int32)) = vi16
            show WP p e below _ (T15.setTop (mkF m 88 #[.val (.int p1), .val (.int p2), .val (.int p3), .val (.long q4), .second, .val (.long q5), .second, .val (.int z2_S0), .val (.int z5_S0), .val (.int z8_S0), .val (.int z11_S0), .val (.int z14_S0), .val (.int vi16), .unset, .unset, .unset, .unset, .unset, .unset, .unset, .unset, .unset, .unset, .unset, .unset, .unset, .unset, .unset, .unset, .unset, .unset, .unset, .unset, .unset, .unset, .unset, .unset, .unset, .unset, .unset, .unset, .unset, .unset, .unset, .unset] []))
            refine own_go (fun t_ k => XS.iload X15.here hx rfl (hb hby at_88) rfl k) ?_
            show WP p e below _ (T15.setTop (mkF m 90 #[.val (.int p1), .val (.int p2), .val (.int p3), .val (.long q4), .second, .val (.long q5), .second, .val (.int z2_S0), .val (.int z5_S0), .val (.int z8_S0), .val (.int z11_S0), .val (.int z14_S0), .val (.int vi16), .unset, .unset, .unset, .unset, .unset, .unset, .unset, .unset, .unset, .unset, .unset, .unset, .unset, .unset, .unset, .unset, .unset, .unset, .unset, .unset, .unset, .unset, .unset, .unset, .unset, .unset, .unset, .unset, .unset, .unset, .unset, .unset] [(.int z2_S0)]))
            have J19 : ∀ (T19 : State) (ls19 : List Loc) (X19 : Stand p l e room_1 s m #[(.int p1), (.int p2), (.int p3), (.long q4), (.long q5)] below meth c T19 ls19 0 0) (N19 : Fr n0 ls19) (e19 : T19.heap = h0) (z18_S0 : Int32) (hz18_S0 : z18_S0 = (if z2_S0 = (0 : Int32) then ((((p1.toUInt32 >>> ((3 : Int32) &&& 31).toUInt32).toInt32) &&& (7 : Int32)) % (5 : Int32)) else vi16)), WP p e below (GGW (Q0 n0) s room_1.cells room_1.slots) (T19.setTop (mkF m 106 #[.val (.int p1), .val (.int p2), .val (.int p3), .val (.long q4), .second, .val (.long q5), .second, .val (.int z2_S0), .val (.int z5_S0), .val (.int z8_S0), .val (.int z11_S0), .val (.int z14_S0), .val (.int vi16), .unset, .unset, .unset, .unset, .unset, .unset, .unset, .unset, .unset, .unset, .unset, .unset, .unset, .unset, .unset, .unset, .unset, .unset, .unset, .unset, .unset, .unset, .unset, .unset, .unset, .unset, .unset, .unset, .unset, .unset, .unset, .unset] [(.int z18_S0)])) := by
              intro T19 ls19 X19 N19 e19 z18_S0 hz18_S0
              show WP p e below _ (T19.setTop (mkF m 106 #[.val (.int p1), .val (.int p2), .val (.int p3), .val (.long q4), .second, .val (.long q5), .second, .val (.int z2_S0), .val (.int z5_S0), .val (.int z8_S0), .val (.int z11_S0), .val (.int z14_S0), .val (.int vi16), .unset, .unset, .unset, .unset, .unset, .unset, .unset, .unset, .unset, .unset, .unset, .unset, .unset, .unset, .unset, .unset, .unset, .unset, .unset, .unset, .unset, .unset, .unset, .unset, .unset, .unset, .unset, .unset, .unset, .unset, .unset, .unset] [(.int z18_S0)]))
              refine own_go (fun t_ k => XS.istore X19.here hx rfl (hb hby at_106) rfl (l' := #[.val (.int p1), .val (.int p2), .val (.int p3), .val (.long q4), .second, .val (.long q5), .second, .val (.int z2_S0), .val (.int z5_S0), .val (.int z8_S0), .val (.int z11_S0), .val (.int z14_S0), .val (.int vi16), .val (.int z18_S0), .unset, .unset, .unset, .unset, .unset, .unset, .unset, .unset, .unset, .unset, .unset, .unset, .unset, .unset, .unset, .unset, .unset, .unset, .unset, .unset, .unset, .unset, .unset, .unset, .unset, .unset, .unset, .unset, .unset, .unset, .unset]) rfl k) ?_
              show WP p e below _ (T19.setTop (mkF m 108 #[.val (.int p1), .val (.int p2), .val (.int p3), .val (.long q4), .second, .val (.long q5), .second, .val (.int z2_S0), .val (.int z5_S0), .val (.int z8_S0), .val (.int z11_S0), .val (.int z14_S0), .val (.int vi16), .val (.int z18_S0), .unset, .unset, .unset, .unset, .unset, .unset, .unset, .unset, .unset, .unset, .unset, .unset, .unset, .unset, .unset, .unset, .unset, .unset, .unset, .unset, .unset, .unset, .unset, .unset, .unset, .unset, .unset, .unset, .unset, .unset, .unset] []))
              refine own_go (fun t_ k => XS.iloadN X19.here hx rfl (hb hby at_108) rfl k) ?_
              show WP p e below _ (T19.setTop (mkF m 109 #[.val (.int p1), .val (.int p2), .val (.int p3), .val (.long q4), .second, .val (.long q5), .second, .val (.int z2_S0), .val (.int z5_S0), .val (.int z8_S0), .val (.int z11_S0), .val (.int z14_S0), .val (.int vi16), .val (.int z18_S0), .unset, .unset, .unset, .unset, .unset, .unset, .unset, .unset, .unset, .unset, .unset, .unset, .unset, .unset, .unset, .unset, .unset, .unset, .unset, .unset, .unset, .unset, .unset, .unset, .unset, .unset, .unset, .unset, .unset, .unset, .unset] [(.int p1)]))
              refine own_go (fun t_ k => XS.bipush X19.here hx rfl (hb hby at_109) k) ?_
              show WP p e below _ (T19.setTop (mkF m 111 #[.val (.int p1), .val (.int p2), .val (.int p3), .val (.long q4), .second, .val (.long q5), .second, .val (.int z2_S0), .val (.int z5_S0), .val (.int z8_S0), .val (.int z11_S0), .val (.int z14_S0), .val (.int vi16), .val (.int z18_S0), .unset, .unset, .unset, .unset, .unset, .unset, .unset, .unset, .unset, .unset, .unset, .unset, .unset, .unset, .unset, .unset, .unset, .unset, .unset, .unset, .unset, .unset, .unset, .unset, .unset, .unset, .unset, .unset, .unset, .unset, .unset] [(.int (11 : Int32)), (.int p1)]))
              refine own_go (fun t_ k => XS.iushr X19.here hx rfl (hb hby at_111) rfl k) ?_
              show WP p e below _ (T19.setTop (mkF m 112 #[.val (.int p1), .val (.int p2), .val (.int p3), .val (.long q4), .second, .val (.long q5), .second, .val (.int z2_S0), .val (.int z5_S0), .val (.int z8_S0), .val (.int z11_S0), .val (.int z14_S0), .val (.int vi16), .val (.int z18_S0), .unset, .unset, .unset, .unset, .unset, .unset, .unset, .unset, .unset, .unset, .unset, .unset, .unset, .unset, .unset, .unset, .unset, .unset, .unset, .unset, .unset, .unset, .unset, .unset, .unset, .unset, .unset, .unset, .unset, .unset, .unset] [(.int ((p1.toUInt32 >>> ((11 : Int32) &&& 31).toUInt32).toInt32))]))
              refine own_go (fun t_ k => XS.iconst X19.here hx rfl (hb hby at_112) k) ?_
              show WP p e below _ (T19.setTop (mkF m 113 #[.val (.int p1), .val (.int p2), .val (.int p3), .val (.long q4), .second, .val (.long q5), .second, .val (.int z2_S0), .val (.int z5_S0), .val (.int z8_S0), .val (.int z11_S0), .val (.int z14_S0), .val (.int vi16), .val (.int z18_S0), .unset, .unset, .unset, .unset, .unset, .unset, .unset, .unset, .unset, .unset, .unset, .unset, .unset, .unset, .unset, .unset, .unset, .unset, .unset, .unset, .unset, .unset, .unset, .unset, .unset, .unset, .unset, .unset, .unset, .unset, .unset] [(.int (3 : Int32)), (.int ((p1.toUInt32 >>> ((11 : Int32) &&& 31).toUInt32).toInt32))]))
              refine own_go (fun t_ k => XS.iand X19.here hx rfl (hb hby at_113) rfl k) ?_
              show WP p e below _ (T19.setTop (mkF m 114 #[.val (.int p1), .val (.int p2), .val (.int p3), .val (.long q4), .second, .val (.long q5), .second, .val (.int z2_S0), .val (.int z5_S0), .val (.int z8_S0), .val (.int z11_S0), .val (.int z14_S0), .val (.int vi16), .val (.int z18_S0), .unset, .unset, .unset, .unset, .unset, .unset, .unset, .unset, .unset, .unset, .unset, .unset, .unset, .unset, .unset, .unset, .unset, .unset, .unset, .unset, .unset, .unset, .unset, .unset, .unset, .unset, .unset, .unset, .unset, .unset, .unset] [(.int (((p1.toUInt32 >>> ((11 : Int32) &&& 31).toUInt32).toInt32) &&& (3 : Int32)))]))
              refine own_go (fun t_ k => XS.iconst X19.here hx rfl (hb hby at_114) k) ?_
              show WP p e below _ (T19.setTop (mkF m 115 #[.val (.int p1), .val (.int p2), .val (.int p3), .val (.long q4), .second, .val (.long q5), .second, .val (.int z2_S0), .val (.int z5_S0), .val (.int z8_S0), .val (.int z11_S0), .val (.int z14_S0), .val (.int vi16), .val (.int z18_S0), .unset, .unset, .unset, .unset, .unset, .unset, .unset, .unset, .unset, .unset, .unset, .unset, .unset, .unset, .unset, .unset, .unset, .unset, .unset, .unset, .unset, .unset, .unset, .unset, .unset, .unset, .unset, .unset, .unset, .unset, .unset] [(.int (3 : Int32)), (.int (((p1.toUInt32 >>> ((11 : Int32) &&& 31).toUInt32).toInt32) &&& (3 : Int32)))]))
              refine own_go (fun t_ k => iremM X19 hx rfl (hb hby at_115) rfl (by decide) k) ?_
              show WP p e below _ (T19.setTop (mkF m 116 #[.val (.int p1), .val (.int p2), .val (.int p3), .val (.long q4), .second, .val (.long q5), .second, .val (.int z2_S0), .val (.int z5_S0), .val (.int z8_S0), .val (.int z11_S0), .val (.int z14_S0), .val (.int vi16), .val (.int z18_S0), .unset, .unset, .unset, .unset, .unset, .unset, .unset, .unset, .unset, .unset, .unset, .unset, .unset, .unset, .unset, .unset, .unset, .unset, .unset, .unset, .unset, .unset, .unset, .unset, .unset, .unset, .unset, .unset, .unset, .unset, .unset] [(.int ((((p1.toUInt32 >>> ((11 : Int32) &&& 31).toUInt32).toInt32) &&& (3 : Int32)) % (3 : Int32)))]))
              refine own_go (fun t_ k => XS.istore X19.here hx rfl (hb hby at_116) rfl (l' := #[.val (.int p1), .val (.int p2), .val (.int p3), .val (.long q4), .second, .val (.long q5), .second, .val (.int z2_S0), .val (.int z5_S0), .val (.int z8_S0), .val (.int z11_S0), .val (.int z14_S0), .val (.int vi16), .val (.int z18_S0), .val (.int ((((p1.toUInt32 >>> ((11 : Int32) &&& 31).toUInt32).toInt32) &&& (3 : Int32)) % (3 : Int32))), .unset, .unset, .unset, .unset, .unset, .unset, .unset, .unset, .unset, .unset, .unset, .unset, .unset, .unset, .unset, .unset, .unset, .unset, .unset, .unset, .unset, .unset, .unset, .unset, .unset, .unset, .unset, .unset, .unset, .unset]) rfl k) ?_
              show WP p e below _ (T19.setTop (mkF m 118 #[.val (.int p1), .val (.int p2), .val (.int p3), .val (.long q4), .second, .val (.long q5), .second, .val (.int z2_S0), .val (.int z5_S0), .val (.int z8_S0), .val (.int z11_S0), .val (.int z14_S0), .val (.int vi16), .val (.int z18_S0), .val (.int ((((p1.toUInt32 >>> ((11 : Int32) &&& 31).toUInt32).toInt32) &&& (3 : Int32)) % (3 : Int32))), .unset, .unset, .unset, .unset, .unset, .unset, .unset, .unset, .unset, .unset, .unset, .unset, .unset, .unset, .unset, .unset, .unset, .unset, .unset, .unset, .unset, .unset, .unset, .unset, .unset, .unset, .unset, .unset, .unset, .unset] []))
              generalize he20 : ((((p1.toUInt32 >>> ((11 : Int32) &&& 31).toUInt32).toInt32) &&& (3 : Int32)) % (3 : Int32)) = vi20
              show WP p e below _ (T19.setTop (mkF m 118 #[.val (.int p1), .val (.int p2), .val (.int p3), .val (.long q4), .second, .val (.long q5), .second, .val (.int z2_S0), .val (.int z5_S0), .val (.int z8_S0), .val (.int z11_S0), .val (.int z14_S0), .val (.int vi16), .val (.int z18_S0), .val (.int vi20), .unset, .unset, .unset, .unset, .unset, .unset, .unset, .unset, .unset, .unset, .unset, .unset, .unset, .unset, .unset, .unset, .unset, .unset, .unset, .unset, .unset, .unset, .unset, .unset, .unset, .unset, .unset, .unset, .unset, .unset] []))
              refine own_go (fun t_ k => XS.iload X19.here hx rfl (hb hby at_118) rfl k) ?_
              show WP p e below _ (T19.setTop (mkF m 120 #[.val (.int p1), .val (.int p2), .val (.int p3), .val (.long q4), .second, .val (.long q5), .second, .val (.int z2_S0), .val (.int z5_S0), .val (.int z8_S0), .val (.int z11_S0), .val (.int z14_S0), .val (.int vi16), .val (.int z18_S0), .val (.int vi20), .unset, .unset, .unset, .unset, .unset, .unset, .unset, .unset, .unset, .unset, .unset, .unset, .unset, .unset, .unset, .unset, .unset, .unset, .unset, .unset, .unset, .unset, .unset, .unset, .unset, .unset, .unset, .unset, .unset, .unset] [(.int z5_S0)]))
              have J23 : ∀ (T23 : State) (ls23 : List Loc) (X23 : Stand p l e room_1 s m #[(.int p1), (.int p2), (.int p3), (.long q4), (.long q5)] below meth c T23 ls23 0 0) (N23 : Fr n0 ls23) (e23 : T23.heap = h0) (z22_S0 : Int32) (hz22_S0 : z22_S0 = (if z5_S0 = (0 : Int32) then ((((p1.toUInt32 >>> ((13 : Int32) &&& 31).toUInt32).toInt32) &&& (3 : Int32)) % (3 : Int32)) else vi20)), WP p e below (GGW (Q0 n0) s room_1.cells room_1.slots) (T23.setTop (mkF m 136 #[.val (.int p1), .val (.int p2), .val (.int p3), .val (.long q4), .second, .val (.long q5), .second, .val (.int z2_S0), .val (.int z5_S0), .val (.int z8_S0), .val (.int z11_S0), .val (.int z14_S0), .val (.int vi16), .val (.int z18_S0), .val (.int vi20), .unset, .unset, .unset, .unset, .unset, .unset, .unset, .unset, .unset, .unset, .unset, .unset, .unset, .unset, .unset, .unset, .unset, .unset, .unset, .unset, .unset, .unset, .unset, .unset, .unset, .unset, .unset, .unset, .unset, .unset] [(.int z22_S0)])) := by
                intro T23 ls23 X23 N23 e23 z22_S0 hz22_S0
                show WP p e below _ (T23.setTop (mkF m 136 #[.val (.int p1), .val (.int p2), .val (.int p3), .val (.long q4), .second, .val (.long q5), .second, .val (.int z2_S0), .val (.int z5_S0), .val (.int z8_S0), .val (.int z11_S0), .val (.int z14_S0), .val (.int vi16), .val (.int z18_S0), .val (.int vi20), .unset, .unset, .unset, .unset, .unset, .unset, .unset, .unset, .unset, .unset, .unset, .unset, .unset, .unset, .unset, .unset, .unset, .unset, .unset, .unset, .unset, .unset, .unset, .unset, .unset, .unset, .unset, .unset, .unset, .unset] [(.int z22_S0)]))
                refine own_go (fun t_ k => XS.istore X23.here hx rfl (hb hby at_136) rfl (l' := #[.val (.int p1), .val (.int p2), .val (.int p3), .val (.long q4), .second, .val (.long q5), .second, .val (.int z2_S0), .val (.int z5_S0), .val (.int z8_S0), .val (.int z11_S0), .val (.int z14_S0), .val (.int vi16), .val (.int z18_S0), .val (.int vi20), .val (.int z22_S0), .unset, .unset, .unset, .unset, .unset, .unset, .unset, .unset, .unset, .unset, .unset, .unset, .unset, .unset, .unset, .unset, .unset, .unset, .unset, .unset, .unset, .unset, .unset, .unset, .unset, .unset, .unset, .unset, .unset]) rfl k) ?_
                show WP p e below _ (T23.setTop (mkF m 138 #[.val (.int p1), .val (.int p2), .val (.int p3), .val (.long q4), .second, .val (.long q5), .second, .val (.int z2_S0), .val (.int z5_S0), .val (.int z8_S0), .val (.int z11_S0), .val (.int z14_S0), .val (.int vi16), .val (.int z18_S0), .val (.int vi20), .val (.int z22_S0), .unset, .unset, .unset, .unset, .unset, .unset, .unset, .unset, .unset, .unset, .unset, .unset, .unset, .unset, .unset, .unset, .unset, .unset, .unset, .unset, .unset, .unset, .unset, .unset, .unset, .unset, .unset, .unset, .unset] []))
                refine own_go (fun t_ k => XS.iloadN X23.here hx rfl (hb hby at_138) rfl k) ?_
                show WP p e below _ (T23.setTop (mkF m 139 #[.val (.int p1), .val (.int p2), .val (.int p3), .val (.long q4), .second, .val (.long q5), .second, .val (.int z2_S0), .val (.int z5_S0), .val (.int z8_S0), .val (.int z11_S0), .val (.int z14_S0), .val (.int vi16), .val (.int z18_S0), .val (.int vi20), .val (.int z22_S0), .unset, .unset, .unset, .unset, .unset, .unset, .unset, .unset, .unset, .unset, .unset, .unset, .unset, .unset, .unset, .unset, .unset, .unset, .unset, .unset, .unset, .unset, .unset, .unset, .unset, .unset, .unset, .unset, .unset] [(.int p2)]))
                refine own_go (fun t_ k => XS.sipush X23.here hx rfl (hb hby at_139) k) ?_
                show WP p e below _ (T23.setTop (mkF m 142 #[.val (.int p1), .val (.int p2), .val (.int p3), .val (.long q4), .second, .val (.long q5), .second, .val (.int z2_S0), .val (.int z5_S0), .val (.int z8_S0), .val (.int z11_S0), .val (.int z14_S0), .val (.int vi16), .val (.int z18_S0), .val (.int vi20), .val (.int z22_S0), .unset, .unset, .unset, .unset, .unset, .unset, .unset, .unset, .unset, .unset, .unset, .unset, .unset, .unset, .unset, .unset, .unset, .unset, .unset, .unset, .unset, .unset, .unset, .unset, .unset, .unset, .unset, .unset, .unset] [(.int (255 : Int32)), (.int p2)]))
                refine own_go (fun t_ k => XS.iand X23.here hx rfl (hb hby at_142) rfl k) ?_
                show WP p e below _ (T23.setTop (mkF m 143 #[.val (.int p1), .val (.int p2), .val (.int p3), .val (.long q4), .second, .val (.long q5), .second, .val (.int z2_S0), .val (.int z5_S0), .val (.int z8_S0), .val (.int z11_S0), .val (.int z14_S0), .val (.int vi16), .val (.int z18_S0), .val (.int vi20), .val (.int z22_S0), .unset, .unset, .unset, .unset, .unset, .unset, .unset, .unset, .unset, .unset, .unset, .unset, .unset, .unset, .unset, .unset, .unset, .unset, .unset, .unset, .unset, .unset, .unset, .unset, .unset, .unset, .unset, .unset, .unset] [(.int (p2 &&& (255 : Int32)))]))
                refine own_go (fun t_ k => XS.istore X23.here hx rfl (hb hby at_143) rfl (l' := #[.val (.int p1), .val (.int p2), .val (.int p3), .val (.long q4), .second, .val (.long q5), .second, .val (.int z2_S0), .val (.int z5_S0), .val (.int z8_S0), .val (.int z11_S0), .val (.int z14_S0), .val (.int vi16), .val (.int z18_S0), .val (.int vi20), .val (.int z22_S0), .val (.int (p2 &&& (255 : Int32))), .unset, .unset, .unset, .unset, .unset, .unset, .unset, .unset, .unset, .unset, .unset, .unset, .unset, .unset, .unset, .unset, .unset, .unset, .unset, .unset, .unset, .unset, .unset, .unset, .unset, .unset, .unset, .unset]) rfl k) ?_
                show WP p e below _ (T23.setTop (mkF m 145 #[.val (.int p1), .val (.int p2), .val (.int p3), .val (.long q4), .second, .val (.long q5), .second, .val (.int z2_S0), .val (.int z5_S0), .val (.int z8_S0), .val (.int z11_S0), .val (.int z14_S0), .val (.int vi16), .val (.int z18_S0), .val (.int vi20), .val (.int z22_S0), .val (.int (p2 &&& (255 : Int32))), .unset, .unset, .unset, .unset, .unset, .unset, .unset, .unset, .unset, .unset, .unset, .unset, .unset, .unset, .unset, .unset, .unset, .unset, .unset, .unset, .unset, .unset, .unset, .unset, .unset, .unset, .unset, .unset] []))
                generalize he24 : (p2 &&& (255 : Int32)) = vi24
                show WP p e below _ (T23.setTop (mkF m 145 #[.val (.int p1), .val (.int p2), .val (.int p3), .val (.long q4), .second, .val (.long q5), .second, .val (.int z2_S0), .val (.int z5_S0), .val (.int z8_S0), .val (.int z11_S0), .val (.int z14_S0), .val (.int vi16), .val (.int z18_S0), .val (.int vi20), .val (.int z22_S0), .val (.int vi24), .unset, .unset, .unset, .unset, .unset, .unset, .unset, .unset, .unset, .unset, .unset, .unset, .unset, .unset, .unset, .unset, .unset, .unset, .unset, .unset, .unset, .unset, .unset, .unset, .unset, .unset, .unset, .unset] []))
                refine own_go (fun t_ k => XS.iloadN X23.here hx rfl (hb hby at_145) rfl k) ?_
                show WP p e below _ (T23.setTop (mkF m 146 #[.val (.int p1), .val (.int p2), .val (.int p3), .val (.long q4), .second, .val (.long q5), .second, .val (.int z2_S0), .val (.int z5_S0), .val (.int z8_S0), .val (.int z11_S0), .val (.int z14_S0), .val (.int vi16), .val (.int z18_S0), .val (.int vi20), .val (.int z22_S0), .val (.int vi24), .unset, .unset, .unset, .unset, .unset, .unset, .unset, .unset, .unset, .unset, .unset, .unset, .unset, .unset, .unset, .unset, .unset, .unset, .unset, .unset, .unset, .unset, .unset, .unset, .unset, .unset, .unset, .unset] [(.int p2)]))
                refine own_go (fun t_ k => XS.bipush X23.here hx rfl (hb hby at_146) k) ?_
                show WP p e below _ (T23.setTop (mkF m 148 #[.val (.int p1), .val (.int p2), .val (.int p3), .val (.long q4), .second, .val (.long q5), .second, .val (.int z2_S0), .val (.int z5_S0), .val (.int z8_S0), .val (.int z11_S0), .val (.int z14_S0), .val (.int vi16), .val (.int z18_S0), .val (.int vi20), .val (.int z22_S0), .val (.int vi24), .unset, .unset, .unset, .unset, .unset, .unset, .unset, .unset, .unset, .unset, .unset, .unset, .unset, .unset, .unset, .unset, .unset, .unset, .unset, .unset, .unset, .unset, .unset, .unset, .unset, .unset, .unset, .unset] [(.int (8 : Int32)), (.int p2)]))
                refine own_go (fun t_ k => XS.iushr X23.here hx rfl (hb hby at_148) rfl k) ?_
                show WP p e below _ (T23.setTop (mkF m 149 #[.val (.int p1), .val (.int p2), .val (.int p3), .val (.long q4), .second, .val (.long q5), .second, .val (.int z2_S0), .val (.int z5_S0), .val (.int z8_S0), .val (.int z11_S0), .val (.int z14_S0), .val (.int vi16), .val (.int z18_S0), .val (.int vi20), .val (.int z22_S0), .val (.int vi24), .unset, .unset, .unset, .unset, .unset, .unset, .unset, .unset, .unset, .unset, .unset, .unset, .unset, .unset, .unset, .unset, .unset, .unset, .unset, .unset, .unset, .unset, .unset, .unset, .unset, .unset, .unset, .unset] [(.int ((p2.toUInt32 >>> ((8 : Int32) &&& 31).toUInt32).toInt32))]))
                refine own_go (fun t_ k => XS.sipush X23.here hx rfl (hb hby at_149) k) ?_
                show WP p e below _ (T23.setTop (mkF m 152 #[.val (.int p1), .val (.int p2), .val (.int p3), .val (.long q4), .second, .val (.long q5), .second, .val (.int z2_S0), .val (.int z5_S0), .val (.int z8_S0), .val (.int z11_S0), .val (.int z14_S0), .val (.int vi16), .val (.int z18_S0), .val (.int vi20), .val (.int z22_S0), .val (.int vi24), .unset, .unset, .unset, .unset, .unset, .unset, .unset, .unset, .unset, .unset, .unset, .unset, .unset, .unset, .unset, .unset, .unset, .unset, .unset, .unset, .unset, .unset, .unset, .unset, .unset, .unset, .unset, .unset] [(.int (255 : Int32)), (.int ((p2.toUInt32 >>> ((8 : Int32) &&& 31).toUInt32).toInt32))]))
                refine own_go (fun t_ k => XS.iand X23.here hx rfl (hb hby at_152) rfl k) ?_
                show WP p e below _ (T23.setTop (mkF m 153 #[.val (.int p1), .val (.int p2), .val (.int p3), .val (.long q4), .second, .val (.long q5), .second, .val (.int z2_S0), .val (.int z5_S0), .val (.int z8_S0), .val (.int z11_S0), .val (.int z14_S0), .val (.int vi16), .val (.int z18_S0), .val (.int vi20), .val (.int z22_S0), .val (.int vi24), .unset, .unset, .unset, .unset, .unset, .unset, .unset, .unset, .unset, .unset, .unset, .unset, .unset, .unset, .unset, .unset, .unset, .unset, .unset, .unset, .unset, .unset, .unset, .unset, .unset, .unset, .unset, .unset] [(.int (((p2.toUInt32 >>> ((8 : Int32) &&& 31).toUInt32).toInt32) &&& (255 : Int32)))]))
                refine own_go (fun t_ k => XS.istore X23.here hx rfl (hb hby at_153) rfl (l' := #[.val (.int p1), .val (.int p2), .val (.int p3), .val (.long q4), .second, .val (.long q5), .second, .val (.int z2_S0), .val (.int z5_S0), .val (.int z8_S0), .val (.int z11_S0), .val (.int z14_S0), .val (.int vi16), .val (.int z18_S0), .val (.int vi20), .val (.int z22_S0), .val (.int vi24), .val (.int (((p2.toUInt32 >>> ((8 : Int32) &&& 31).toUInt32).toInt32) &&& (255 : Int32))), .unset, .unset, .unset, .unset, .unset, .unset, .unset, .unset, .unset, .unset, .unset, .unset, .unset, .unset, .unset, .unset, .unset, .unset, .unset, .unset, .unset, .unset, .unset, .unset, .unset, .unset, .unset]) rfl k) ?_
                show WP p e below _ (T23.setTop (mkF m 155 #[.val (.int p1), .val (.int p2), .val (.int p3), .val (.long q4), .second, .val (.long q5), .second, .val (.int z2_S0), .val (.int z5_S0), .val (.int z8_S0), .val (.int z11_S0), .val (.int z14_S0), .val (.int vi16), .val (.int z18_S0), .val (.int vi20), .val (.int z22_S0), .val (.int vi24), .val (.int (((p2.toUInt32 >>> ((8 : Int32) &&& 31).toUInt32).toInt32) &&& (255 : Int32))), .unset, .unset, .unset, .unset, .unset, .unset, .unset, .unset, .unset, .unset, .unset, .unset, .unset, .unset, .unset, .unset, .unset, .unset, .unset, .unset, .unset, .unset, .unset, .unset, .unset, .unset, .unset] []))
                generalize he25 : (((p2.toUInt32 >>> ((8 : Int32) &&& 31).toUInt32).toInt32) &&& (255 : Int32)) = vi25
                show WP p e below _ (T23.setTop (mkF m 155 #[.val (.int p1), .val (.int p2), .val (.int p3), .val (.long q4), .second, .val (.long q5), .second, .val (.int z2_S0), .val (.int z5_S0), .val (.int z8_S0), .val (.int z11_S0), .val (.int z14_S0), .val (.int vi16), .val (.int z18_S0), .val (.int vi20), .val (.int z22_S0), .val (.int vi24), .val (.int vi25), .unset, .unset, .unset, .unset, .unset, .unset, .unset, .unset, .unset, .unset, .unset, .unset, .unset, .unset, .unset, .unset, .unset, .unset, .unset, .unset, .unset, .unset, .unset, .unset, .unset, .unset, .unset] []))
                refine own_go (fun t_ k => XS.iload X23.here hx rfl (hb hby at_155) rfl k) ?_
                show WP p e below _ (T23.setTop (mkF m 157 #[.val (.int p1), .val (.int p2), .val (.int p3), .val (.long q4), .second, .val (.long q5), .second, .val (.int z2_S0), .val (.int z5_S0), .val (.int z8_S0), .val (.int z11_S0), .val (.int z14_S0), .val (.int vi16), .val (.int z18_S0), .val (.int vi20), .val (.int z22_S0), .val (.int vi24), .val (.int vi25), .unset, .unset, .unset, .unset, .unset, .unset, .unset, .unset, .unset, .unset, .unset, .unset, .unset, .unset, .unset, .unset, .unset, .unset, .unset, .unset, .unset, .unset, .unset, .unset, .unset, .unset, .unset] [(.int z5_S0)]))
                have J28 : ∀ (T28 : State) (ls28 : List Loc) (X28 : Stand p l e room_1 s m #[(.int p1), (.int p2), (.int p3), (.long q4), (.long q5)] below meth c T28 ls28 0 0) (N28 : Fr n0 ls28) (e28 : T28.heap = h0) (z27_S0 : Int32) (hz27_S0 : z27_S0 = (if z5_S0 = (0 : Int32) then (((p2.toUInt32 >>> ((16 : Int32) &&& 31).toUInt32).toInt32) &&& (255 : Int32)) else vi24)), WP p e below (GGW (Q0 n0) s room_1.cells room_1.slots) (T28.setTop (mkF m 173 #[.val (.int p1), .val (.int p2), .val (.int p3), .val (.long q4), .second, .val (.long q5), .second, .val (.int z2_S0), .val (.int z5_S0), .val (.int z8_S0), .val (.int z11_S0), .val (.int z14_S0), .val (.int vi16), .val (.int z18_S0), .val (.int vi20), .val (.int z22_S0), .val (.int vi24), .val (.int vi25), .unset, .unset, .unset, .unset, .unset, .unset, .unset, .unset, .unset, .unset, .unset, .unset, .unset, .unset, .unset, .unset, .unset, .unset, .unset, .unset, .unset, .unset, .unset, .unset, .unset, .unset, .unset] [(.int z27_S0)])) := by
                  intro T28 ls28 X28 N28 e28 z27_S0 hz27_S0
                  show WP p e below _ (T28.setTop (mkF m 173 #[.val (.int p1), .val (.int p2), .val (.int p3), .val (.long q4), .second, .val (.long q5), .second, .val (.int z2_S0), .val (.int z5_S0), .val (.int z8_S0), .val (.int z11_S0), .val (.int z14_S0), .val (.int vi16), .val (.int z18_S0), .val (.int vi20), .val (.int z22_S0), .val (.int vi24), .val (.int vi25), .unset, .unset, .unset, .unset, .unset, .unset, .unset, .unset, .unset, .unset, .unset, .unset, .unset, .unset, .unset, .unset, .unset, .unset, .unset, .unset, .unset, .unset, .unset, .unset, .unset, .unset, .unset] [(.int z27_S0)]))
                  refine own_go (fun t_ k => XS.istore X28.here hx rfl (hb hby at_173) rfl (l' := #[.val (.int p1), .val (.int p2), .val (.int p3), .val (.long q4), .second, .val (.long q5), .second, .val (.int z2_S0), .val (.int z5_S0), .val (.int z8_S0), .val (.int z11_S0), .val (.int z14_S0), .val (.int vi16), .val (.int z18_S0), .val (.int vi20), .val (.int z22_S0), .val (.int vi24), .val (.int vi25), .val (.int z27_S0), .unset, .unset, .unset, .unset, .unset, .unset, .unset, .unset, .unset, .unset, .unset, .unset, .unset, .unset, .unset, .unset, .unset, .unset, .unset, .unset, .unset, .unset, .unset, .unset, .unset, .unset]) rfl k) ?_
                  show WP p e below _ (T28.setTop (mkF m 175 #[.val (.int p1), .val (.int p2), .val (.int p3), .val (.long q4), .second, .val (.long q5), .second, .val (.int z2_S0), .val (.int z5_S0), .val (.int z8_S0), .val (.int z11_S0), .val (.int z14_S0), .val (.int vi16), .val (.int z18_S0), .val (.int vi20), .val (.int z22_S0), .val (.int vi24), .val (.int vi25), .val (.int z27_S0), .unset, .unset, .unset, .unset, .unset, .unset, .unset, .unset, .unset, .unset, .unset, .unset, .unset, .unset, .unset, .unset, .unset, .unset, .unset, .unset, .unset, .unset, .unset, .unset, .unset, .unset] []))
                  refine own_go (fun t_ k => XS.iload X28.here hx rfl (hb hby at_175) rfl k) ?_
                  show WP p e below _ (T28.setTop (mkF m 177 #[.val (.int p1), .val (.int p2), .val (.int p3), .val (.long q4), .second, .val (.long q5), .second, .val (.int z2_S0), .val (.int z5_S0), .val (.int z8_S0), .val (.int z11_S0), .val (.int z14_S0), .val (.int vi16), .val (.int z18_S0), .val (.int vi20), .val (.int z22_S0), .val (.int vi24), .val (.int vi25), .val (.int z27_S0), .unset, .unset, .unset, .unset, .unset, .unset, .unset, .unset, .unset, .unset, .unset, .unset, .unset, .unset, .unset, .unset, .unset, .unset, .unset, .unset, .unset, .unset, .unset, .unset, .unset, .unset] [(.int z5_S0)]))
                  have J31 : ∀ (T31 : State) (ls31 : List Loc) (X31 : Stand p l e room_1 s m #[(.int p1), (.int p2), (.int p3), (.long q4), (.long q5)] below meth c T31 ls31 0 0) (N31 : Fr n0 ls31) (e31 : T31.heap = h0) (z30_S0 : Int32) (hz30_S0 : z30_S0 = (if z5_S0 = (0 : Int32) then (((p2.toUInt32 >>> ((24 : Int32) &&& 31).toUInt32).toInt32) &&& (255 : Int32)) else vi25)), WP p e below (GGW (Q0 n0) s room_1.cells room_1.slots) (T31.setTop (mkF m 193 #[.val (.int p1), .val (.int p2), .val (.int p3), .val (.long q4), .second, .val (.long q5), .second, .val (.int z2_S0), .val (.int z5_S0), .val (.int z8_S0), .val (.int z11_S0), .val (.int z14_S0), .val (.int vi16), .val (.int z18_S0), .val (.int vi20), .val (.int z22_S0), .val (.int vi24), .val (.int vi25), .val (.int z27_S0), .unset, .unset, .unset, .unset, .unset, .unset, .unset, .unset, .unset, .unset, .unset, .unset, .unset, .unset, .unset, .unset, .unset, .unset, .unset, .unset, .unset, .unset, .unset, .unset, .unset, .unset] [(.int z30_S0)])) := by
                    intro T31 ls31 X31 N31 e31 z30_S0 hz30_S0
                    show WP p e below _ (T31.setTop (mkF m 193 #[.val (.int p1), .val (.int p2), .val (.int p3), .val (.long q4), .second, .val (.long q5), .second, .val (.int z2_S0), .val (.int z5_S0), .val (.int z8_S0), .val (.int z11_S0), .val (.int z14_S0), .val (.int vi16), .val (.int z18_S0), .val (.int vi20), .val (.int z22_S0), .val (.int vi24), .val (.int vi25), .val (.int z27_S0), .unset, .unset, .unset, .unset, .unset, .unset, .unset, .unset, .unset, .unset, .unset, .unset, .unset, .unset, .unset, .unset, .unset, .unset, .unset, .unset, .unset, .unset, .unset, .unset, .unset, .unset] [(.int z30_S0)]))
                    refine own_go (fun t_ k => XS.istore X31.here hx rfl (hb hby at_193) rfl (l' := #[.val (.int p1), .val (.int p2), .val (.int p3), .val (.long q4), .second, .val (.long q5), .second, .val (.int z2_S0), .val (.int z5_S0), .val (.int z8_S0), .val (.int z11_S0), .val (.int z14_S0), .val (.int vi16), .val (.int z18_S0), .val (.int vi20), .val (.int z22_S0), .val (.int vi24), .val (.int vi25), .val (.int z27_S0), .val (.int z30_S0), .unset, .unset, .unset, .unset, .unset, .unset, .unset, .unset, .unset, .unset, .unset, .unset, .unset, .unset, .unset, .unset, .unset, .unset, .unset, .unset, .unset, .unset, .unset, .unset, .unset]) rfl k) ?_
                    show WP p e below _ (T31.setTop (mkF m 195 #[.val (.int p1), .val (.int p2), .val (.int p3), .val (.long q4), .second, .val (.long q5), .second, .val (.int z2_S0), .val (.int z5_S0), .val (.int z8_S0), .val (.int z11_S0), .val (.int z14_S0), .val (.int vi16), .val (.int z18_S0), .val (.int vi20), .val (.int z22_S0), .val (.int vi24), .val (.int vi25), .val (.int z27_S0), .val (.int z30_S0), .unset, .unset, .unset, .unset, .unset, .unset, .unset, .unset, .unset, .unset, .unset, .unset, .unset, .unset, .unset, .unset, .unset, .unset, .unset, .unset, .unset, .unset, .unset, .unset, .unset] []))
                    refine own_go (fun t_ k => XS.iloadN X31.here hx rfl (hb hby at_195) rfl k) ?_
                    show WP p e below _ (T31.setTop (mkF m 196 #[.val (.int p1), .val (.int p2), .val (.int p3), .val (.long q4), .second, .val (.long q5), .second, .val (.int z2_S0), .val (.int z5_S0), .val (.int z8_S0), .val (.int z11_S0), .val (.int z14_S0), .val (.int vi16), .val (.int z18_S0), .val (.int vi20), .val (.int z22_S0), .val (.int vi24), .val (.int vi25), .val (.int z27_S0), .val (.int z30_S0), .unset, .unset, .unset, .unset, .unset, .unset, .unset, .unset, .unset, .unset, .unset, .unset, .unset, .unset, .unset, .unset, .unset, .unset, .unset, .unset, .unset, .unset, .unset, .unset, .unset] [(.int p1)]))
                    refine own_go (fun t_ k => XS.bipush X31.here hx rfl (hb hby at_196) k) ?_
                    show WP p e below _ (T31.setTop (mkF m 198 #[.val (.int p1), .val (.int p2), .val (.int p3), .val (.long q4), .second, .val (.long q5), .second, .val (.int z2_S0), .val (.int z5_S0), .val (.int z8_S0), .val (.int z11_S0), .val (.int z14_S0), .val (.int vi16), .val (.int z18_S0), .val (.int vi20), .val (.int z22_S0), .val (.int vi24), .val (.int vi25), .val (.int z27_S0), .val (.int z30_S0), .unset, .unset, .unset, .unset, .unset, .unset, .unset, .unset, .unset, .unset, .unset, .unset, .unset, .unset, .unset, .unset, .unset, .unset, .unset, .unset, .unset, .unset, .unset, .unset, .unset] [(.int (15 : Int32)), (.int p1)]))
                    refine own_go (fun t_ k => XS.iushr X31.here hx rfl (hb hby at_198) rfl k) ?_
                    show WP p e below _ (T31.setTop (mkF m 199 #[.val (.int p1), .val (.int p2), .val (.int p3), .val (.long q4), .second, .val (.long q5), .second, .val (.int z2_S0), .val (.int z5_S0), .val (.int z8_S0), .val (.int z11_S0), .val (.int z14_S0), .val (.int vi16), .val (.int z18_S0), .val (.int vi20), .val (.int z22_S0), .val (.int vi24), .val (.int vi25), .val (.int z27_S0), .val (.int z30_S0), .unset, .unset, .unset, .unset, .unset, .unset, .unset, .unset, .unset, .unset, .unset, .unset, .unset, .unset, .unset, .unset, .unset, .unset, .unset, .unset, .unset, .unset, .unset, .unset, .unset] [(.int ((p1.toUInt32 >>> ((15 : Int32) &&& 31).toUInt32).toInt32))]))
                    refine own_go (fun t_ k => XS.iconst X31.here hx rfl (hb hby at_199) k) ?_
                    show WP p e below _ (T31.setTop (mkF m 200 #[.val (.int p1), .val (.int p2), .val (.int p3), .val (.long q4), .second, .val (.long q5), .second, .val (.int z2_S0), .val (.int z5_S0), .val (.int z8_S0), .val (.int z11_S0), .val (.int z14_S0), .val (.int vi16), .val (.int z18_S0), .val (.int vi20), .val (.int z22_S0), .val (.int vi24), .val (.int vi25), .val (.int z27_S0), .val (.int z30_S0), .unset, .unset, .unset, .unset, .unset, .unset, .unset, .unset, .unset, .unset, .unset, .unset, .unset, .unset, .unset, .unset, .unset, .unset, .unset, .unset, .unset, .unset, .unset, .unset, .unset] [(.int (3 : Int32)), (.int ((p1.toUInt32 >>> ((15 : Int32) &&& 31).toUInt32).toInt32))]))
                    refine own_go (fun t_ k => XS.iand X31.here hx rfl (hb hby at_200) rfl k) ?_
                    show WP p e below _ (T31.setTop (mkF m 201 #[.val (.int p1), .val (.int p2), .val (.int p3), .val (.long q4), .second, .val (.long q5), .second, .val (.int z2_S0), .val (.int z5_S0), .val (.int z8_S0), .val (.int z11_S0), .val (.int z14_S0), .val (.int vi16), .val (.int z18_S0), .val (.int vi20), .val (.int z22_S0), .val (.int vi24), .val (.int vi25), .val (.int z27_S0), .val (.int z30_S0), .unset, .unset, .unset, .unset, .unset, .unset, .unset, .unset, .unset, .unset, .unset, .unset, .unset, .unset, .unset, .unset, .unset, .unset, .unset, .unset, .unset, .unset, .unset, .unset, .unset] [(.int (((p1.toUInt32 >>> ((15 : Int32) &&& 31).toUInt32).toInt32) &&& (3 : Int32)))]))
                    refine own_go (fun t_ k => XS.iconst X31.here hx rfl (hb hby at_201) k) ?_
                    show WP p e below _ (T31.setTop (mkF m 202 #[.val (.int p1), .val (.int p2), .val (.int p3), .val (.long q4), .second, .val (.long q5), .second, .val (.int z2_S0), .val (.int z5_S0), .val (.int z8_S0), .val (.int z11_S0), .val (.int z14_S0), .val (.int vi16), .val (.int z18_S0), .val (.int vi20), .val (.int z22_S0), .val (.int vi24), .val (.int vi25), .val (.int z27_S0), .val (.int z30_S0), .unset, .unset, .unset, .unset, .unset, .unset, .unset, .unset, .unset, .unset, .unset, .unset, .unset, .unset, .unset, .unset, .unset, .unset, .unset, .unset, .unset, .unset, .unset, .unset, .unset] [(.int (3 : Int32)), (.int (((p1.toUInt32 >>> ((15 : Int32) &&& 31).toUInt32).toInt32) &&& (3 : Int32)))]))
                    refine own_go (fun t_ k => iremM X31 hx rfl (hb hby at_202) rfl (by decide) k) ?_
                    show WP p e below _ (T31.setTop (mkF m 203 #[.val (.int p1), .val (.int p2), .val (.int p3), .val (.long q4), .second, .val (.long q5), .second, .val (.int z2_S0), .val (.int z5_S0), .val (.int z8_S0), .val (.int z11_S0), .val (.int z14_S0), .val (.int vi16), .val (.int z18_S0), .val (.int vi20), .val (.int z22_S0), .val (.int vi24), .val (.int vi25), .val (.int z27_S0), .val (.int z30_S0), .unset, .unset, .unset, .unset, .unset, .unset, .unset, .unset, .unset, .unset, .unset, .unset, .unset, .unset, .unset, .unset, .unset, .unset, .unset, .unset, .unset, .unset, .unset, .unset, .unset] [(.int ((((p1.toUInt32 >>> ((15 : Int32) &&& 31).toUInt32).toInt32) &&& (3 : Int32)) % (3 : Int32)))]))
                    refine own_go (fun t_ k => XS.istore X31.here hx rfl (hb hby at_203) rfl (l' := #[.val (.int p1), .val (.int p2), .val (.int p3), .val (.long q4), .second, .val (.long q5), .second, .val (.int z2_S0), .val (.int z5_S0), .val (.int z8_S0), .val (.int z11_S0), .val (.int z14_S0), .val (.int vi16), .val (.int z18_S0), .val (.int vi20), .val (.int z22_S0), .val (.int vi24), .val (.int vi25), .val (.int z27_S0), .val (.int z30_S0), .val (.int ((((p1.toUInt32 >>> ((15 : Int32) &&& 31).toUInt32).toInt32) &&& (3 : Int32)) % (3 : Int32))), .unset, .unset, .unset, .unset, .unset, .unset, .unset, .unset, .unset, .unset, .unset, .unset, .unset, .unset, .unset, .unset, .unset, .unset, .unset, .unset, .unset, .unset, .unset, .unset]) rfl k) ?_
                    show WP p e below _ (T31.setTop (mkF m 205 #[.val (.int p1), .val (.int p2), .val (.int p3), .val (.long q4), .second, .val (.long q5), .second, .val (.int z2_S0), .val (.int z5_S0), .val (.int z8_S0), .val (.int z11_S0), .val (.int z14_S0), .val (.int vi16), .val (.int z18_S0), .val (.int vi20), .val (.int z22_S0), .val (.int vi24), .val (.int vi25), .val (.int z27_S0), .val (.int z30_S0), .val (.int ((((p1.toUInt32 >>> ((15 : Int32) &&& 31).toUInt32).toInt32) &&& (3 : Int32)) % (3 : Int32))), .unset, .unset, .unset, .unset, .unset, .unset, .unset, .unset, .unset, .unset, .unset, .unset, .unset, .unset, .unset, .unset, .unset, .unset, .unset, .unset, .unset, .unset, .unset, .unset] []))
                    generalize he32 : ((((p1.toUInt32 >>> ((15 : Int32) &&& 31).toUInt32).toInt32) &&& (3 : Int32)) % (3 : Int32)) = vi32
                    show WP p e below _ (T31.setTop (mkF m 205 #[.val (.int p1), .val (.int p2), .val (.int p3), .val (.long q4), .second, .val (.long q5), .second, .val (.int z2_S0), .val (.int z5_S0), .val (.int z8_S0), .val (.int z11_S0), .val (.int z14_S0), .val (.int vi16), .val (.int z18_S0), .val (.int vi20), .val (.int z22_S0), .val (.int vi24), .val (.int vi25), .val (.int z27_S0), .val (.int z30_S0), .val (.int vi32), .unset, .unset, .unset, .unset, .unset, .unset, .unset, .unset, .unset, .unset, .unset, .unset, .unset, .unset, .unset, .unset, .unset, .unset, .unset, .unset, .unset, .unset, .unset, .unset] []))
                    refine own_go (fun t_ k => XS.iload X31.here hx rfl (hb hby at_205) rfl k) ?_
                    show WP p e below _ (T31.setTop (mkF m 207 #[.val (.int p1), .val (.int p2), .val (.int p3), .val (.long q4), .second, .val (.long q5), .second, .val (.int z2_S0), .val (.int z5_S0), .val (.int z8_S0), .val (.int z11_S0), .val (.int z14_S0), .val (.int vi16), .val (.int z18_S0), .val (.int vi20), .val (.int z22_S0), .val (.int vi24), .val (.int vi25), .val (.int z27_S0), .val (.int z30_S0), .val (.int vi32), .unset, .unset, .unset, .unset, .unset, .unset, .unset, .unset, .unset, .unset, .unset, .unset, .unset, .unset, .unset, .unset, .unset, .unset, .unset, .unset, .unset, .unset, .unset, .unset] [(.int z8_S0)]))
                    have J35 : ∀ (T35 : State) (ls35 : List Loc) (X35 : Stand p l e room_1 s m #[(.int p1), (.int p2), (.int p3), (.long q4), (.long q5)] below meth c T35 ls35 0 0) (N35 : Fr n0 ls35) (e35 : T35.heap = h0) (z34_S0 : Int32) (hz34_S0 : z34_S0 = (if z8_S0 = (0 : Int32) then ((((p1.toUInt32 >>> ((17 : Int32) &&& 31).toUInt32).toInt32) &&& (3 : Int32)) % (3 : Int32)) else vi32)), WP p e below (GGW (Q0 n0) s room_1.cells room_1.slots) (T35.setTop (mkF m 223 #[.val (.int p1), .val (.int p2), .val (.int p3), .val (.long q4), .second, .val (.long q5), .second, .val (.int z2_S0), .val (.int z5_S0), .val (.int z8_S0), .val (.int z11_S0), .val (.int z14_S0), .val (.int vi16), .val (.int z18_S0), .val (.int vi20), .val (.int z22_S0), .val (.int vi24), .val (.int vi25), .val (.int z27_S0), .val (.int z30_S0), .val (.int vi32), .unset, .unset, .unset, .unset, .unset, .unset, .unset, .unset, .unset, .unset, .unset, .unset, .unset, .unset, .unset, .unset, .unset, .unset, .unset, .unset, .unset, .unset, .unset, .unset] [(.int z34_S0)])) := by
                      intro T35 ls35 X35 N35 e35 z34_S0 hz34_S0
                      show WP p e below _ (T35.setTop (mkF m 223 #[.val (.int p1), .val (.int p2), .val (.int p3), .val (.long q4), .second, .val (.long q5), .second, .val (.int z2_S0), .val (.int z5_S0), .val (.int z8_S0), .val (.int z11_S0), .val (.int z14_S0), .val (.int vi16), .val (.int z18_S0), .val (.int vi20), .val (.int z22_S0), .val (.int vi24), .val (.int vi25), .val (.int z27_S0), .val (.int z30_S0), .val (.int vi32), .unset, .unset, .unset, .unset, .unset, .unset, .unset, .unset, .unset, .unset, .unset, .unset, .unset, .unset, .unset, .unset, .unset, .unset, .unset, .unset, .unset, .unset, .unset, .unset] [(.int z34_S0)]))
                      refine own_go (fun t_ k => XS.istore X35.here hx rfl (hb hby at_223) rfl (l' := #[.val (.int p1), .val (.int p2), .val (.int p3), .val (.long q4), .second, .val (.long q5), .second, .val (.int z2_S0), .val (.int z5_S0), .val (.int z8_S0), .val (.int z11_S0), .val (.int z14_S0), .val (.int vi16), .val (.int z18_S0), .val (.int vi20), .val (.int z22_S0), .val (.int vi24), .val (.int vi25), .val (.int z27_S0), .val (.int z30_S0), .val (.int vi32), .val (.int z34_S0), .unset, .unset, .unset, .unset, .unset, .unset, .unset, .unset, .unset, .unset, .unset, .unset, .unset, .unset, .unset, .unset, .unset, .unset, .unset, .unset, .unset, .unset, .unset]) rfl k) ?_
                      show WP p e below _ (T35.setTop (mkF m 225 #[.val (.int p1), .val (.int p2), .val (.int p3), .val (.long q4), .second, .val (.long q5), .second, .val (.int z2_S0), .val (.int z5_S0), .val (.int z8_S0), .val (.int z11_S0), .val (.int z14_S0), .val (.int vi16), .val (.int z18_S0), .val (.int vi20), .val (.int z22_S0), .val (.int vi24), .val (.int vi25), .val (.int z27_S0), .val (.int z30_S0), .val (.int vi32), .val (.int z34_S0), .unset, .unset, .unset, .unset, .unset, .unset, .unset, .unset, .unset, .unset, .unset, .unset, .unset, .unset, .unset, .unset, .unset, .unset, .unset, .unset, .unset, .unset, .unset] []))
                      refine own_go (fun t_ k => XS.iloadN X35.here hx rfl (hb hby at_225) rfl k) ?_
                      show WP p e below _ (T35.setTop (mkF m 226 #[.val (.int p1), .val (.int p2), .val (.int p3), .val (.long q4), .second, .val (.long q5), .second, .val (.int z2_S0), .val (.int z5_S0), .val (.int z8_S0), .val (.int z11_S0), .val (.int z14_S0), .val (.int vi16), .val (.int z18_S0), .val (.int vi20), .val (.int z22_S0), .val (.int vi24), .val (.int vi25), .val (.int z27_S0), .val (.int z30_S0), .val (.int vi32), .val (.int z34_S0), .unset, .unset, .unset, .unset, .unset, .unset, .unset, .unset, .unset, .unset, .unset, .unset, .unset, .unset, .unset, .unset, .unset, .unset, .unset, .unset, .unset, .unset, .unset] [(.int p3)]))
                      refine own_go (fun t_ k => XS.sipush X35.here hx rfl (hb hby at_226) k) ?_
                      show WP p e below _ (T35.setTop (mkF m 229 #[.val (.int p1), .val (.int p2), .val (.int p3), .val (.long q4), .second, .val (.long q5), .second, .val (.int z2_S0), .val (.int z5_S0), .val (.int z8_S0), .val (.int z11_S0), .val (.int z14_S0), .val (.int vi16), .val (.int z18_S0), .val (.int vi20), .val (.int z22_S0), .val (.int vi24), .val (.int vi25), .val (.int z27_S0), .val (.int z30_S0), .val (.int vi32), .val (.int z34_S0), .unset, .unset, .unset, .unset, .unset, .unset, .unset, .unset, .unset, .unset, .unset, .unset, .unset, .unset, .unset, .unset, .unset, .unset, .unset, .unset, .unset, .unset, .unset] [(.int (255 : Int32)), (.int p3)]))
                      refine own_go (fun t_ k => XS.iand X35.here hx rfl (hb hby at_229) rfl k) ?_
                      show WP p e below _ (T35.setTop (mkF m 230 #[.val (.int p1), .val (.int p2), .val (.int p3), .val (.long q4), .second, .val (.long q5), .second, .val (.int z2_S0), .val (.int z5_S0), .val (.int z8_S0), .val (.int z11_S0), .val (.int z14_S0), .val (.int vi16), .val (.int z18_S0), .val (.int vi20), .val (.int z22_S0), .val (.int vi24), .val (.int vi25), .val (.int z27_S0), .val (.int z30_S0), .val (.int vi32), .val (.int z34_S0), .unset, .unset, .unset, .unset, .unset, .unset, .unset, .unset, .unset, .unset, .unset, .unset, .unset, .unset, .unset, .unset, .unset, .unset, .unset, .unset, .unset, .unset, .unset] [(.int (p3 &&& (255 : Int32)))]))
                      refine own_go (fun t_ k => XS.istore X35.here hx rfl (hb hby at_230) rfl (l' := #[.val (.int p1), .val (.int p2), .val (.int p3), .val (.long q4), .second, .val (.long q5), .second, .val (.int z2_S0), .val (.int z5_S0), .val (.int z8_S0), .val (.int z11_S0), .val (.int z14_S0), .val (.int vi16), .val (.int z18_S0), .val (.int vi20), .val (.int z22_S0), .val (.int vi24), .val (.int vi25), .val (.int z27_S0), .val (.int z30_S0), .val (.int vi32), .val (.int z34_S0), .val (.int (p3 &&& (255 : Int32))), .unset, .unset, .unset, .unset, .unset, .unset, .unset, .unset, .unset, .unset, .unset, .unset, .unset, .unset, .unset, .unset, .unset, .unset, .unset, .unset, .unset, .unset]) rfl k) ?_
                      show WP p e below _ (T35.setTop (mkF m 232 #[.val (.int p1), .val (.int p2), .val (.int p3), .val (.long q4), .second, .val (.long q5), .second, .val (.int z2_S0), .val (.int z5_S0), .val (.int z8_S0), .val (.int z11_S0), .val (.int z14_S0), .val (.int vi16), .val (.int z18_S0), .val (.int vi20), .val (.int z22_S0), .val (.int vi24), .val (.int vi25), .val (.int z27_S0), .val (.int z30_S0), .val (.int vi32), .val (.int z34_S0), .val (.int (p3 &&& (255 : Int32))), .unset, .unset, .unset, .unset, .unset, .unset, .unset, .unset, .unset, .unset, .unset, .unset, .unset, .unset, .unset, .unset, .unset, .unset, .unset, .unset, .unset, .unset] []))
                      generalize he36 : (p3 &&& (255 : Int32)) = vi36
                      show WP p e below _ (T35.setTop (mkF m 232 #[.val (.int p1), .val (.int p2), .val (.int p3), .val (.long q4), .second, .val (.long q5), .second, .val (.int z2_S0), .val (.int z5_S0), .val (.int z8_S0), .val (.int z11_S0), .val (.int z14_S0), .val (.int vi16), .val (.int z18_S0), .val (.int vi20), .val (.int z22_S0), .val (.int vi24), .val (.int vi25), .val (.int z27_S0), .val (.int z30_S0), .val (.int vi32), .val (.int z34_S0), .val (.int vi36), .unset, .unset, .unset, .unset, .unset, .unset, .unset, .unset, .unset, .unset, .unset, .unset, .unset, .unset, .unset, .unset, .unset, .unset, .unset, .unset, .unset, .unset] []))
                      refine own_go (fun t_ k => XS.iloadN X35.here hx rfl (hb hby at_232) rfl k) ?_
                      show WP p e below _ (T35.setTop (mkF m 233 #[.val (.int p1), .val (.int p2), .val (.int p3), .val (.long q4), .second, .val (.long q5), .second, .val (.int z2_S0), .val (.int z5_S0), .val (.int z8_S0), .val (.int z11_S0), .val (.int z14_S0), .val (.int vi16), .val (.int z18_S0), .val (.int vi20), .val (.int z22_S0), .val (.int vi24), .val (.int vi25), .val (.int z27_S0), .val (.int z30_S0), .val (.int vi32), .val (.int z34_S0), .val (.int vi36), .unset, .unset, .unset, .unset, .unset, .unset, .unset, .unset, .unset, .unset, .unset, .unset, .unset, .unset, .unset, .unset, .unset, .unset, .unset, .unset, .unset, .unset] [(.int p3)]))
                      refine own_go (fun t_ k => XS.bipush X35.here hx rfl (hb hby at_233) k) ?_
                      show WP p e below _ (T35.setTop (mkF m 235 #[.val (.int p1), .val (.int p2), .val (.int p3), .val (.long q4), .second, .val (.long q5), .second, .val (.int z2_S0), .val (.int z5_S0), .val (.int z8_S0), .val (.int z11_S0), .val (.int z14_S0), .val (.int vi16), .val (.int z18_S0), .val (.int vi20), .val (.int z22_S0), .val (.int vi24), .val (.int vi25), .val (.int z27_S0), .val (.int z30_S0), .val (.int vi32), .val (.int z34_S0), .val (.int vi36), .unset, .unset, .unset, .unset, .unset, .unset, .unset, .unset, .unset, .unset, .unset, .unset, .unset, .unset, .unset, .unset, .unset, .unset, .unset, .unset, .unset, .unset] [(.int (8 : Int32)), (.int p3)]))
                      refine own_go (fun t_ k => XS.iushr X35.here hx rfl (hb hby at_235) rfl k) ?_
                      show WP p e below _ (T35.setTop (mkF m 236 #[.val (.int p1), .val (.int p2), .val (.int p3), .val (.long q4), .second, .val (.long q5), .second, .val (.int z2_S0), .val (.int z5_S0), .val (.int z8_S0), .val (.int z11_S0), .val (.int z14_S0), .val (.int vi16), .val (.int z18_S0), .val (.int vi20), .val (.int z22_S0), .val (.int vi24), .val (.int vi25), .val (.int z27_S0), .val (.int z30_S0), .val (.int vi32), .val (.int z34_S0), .val (.int vi36), .unset, .unset, .unset, .unset, .unset, .unset, .unset, .unset, .unset, .unset, .unset, .unset, .unset, .unset, .unset, .unset, .unset, .unset, .unset, .unset, .unset, .unset] [(.int ((p3.toUInt32 >>> ((8 : Int32) &&& 31).toUInt32).toInt32))]))
                      refine own_go (fun t_ k => XS.sipush X35.here hx rfl (hb hby at_236) k) ?_
                      show WP p e below _ (T35.setTop (mkF m 239 #[.val (.int p1), .val (.int p2), .val (.int p3), .val (.long q4), .second, .val (.long q5), .second, .val (.int z2_S0), .val (.int z5_S0), .val (.int z8_S0), .val (.int z11_S0), .val (.int z14_S0), .val (.int vi16), .val (.int z18_S0), .val (.int vi20), .val (.int z22_S0), .val (.int vi24), .val (.int vi25), .val (.int z27_S0), .val (.int z30_S0), .val (.int vi32), .val (.int z34_S0), .val (.int vi36), .unset, .unset, .unset, .unset, .unset, .unset, .unset, .unset, .unset, .unset, .unset, .unset, .unset, .unset, .unset, .unset, .unset, .unset, .unset, .unset, .unset, .unset] [(.int (255 : Int32)), (.int ((p3.toUInt32 >>> ((8 : Int32) &&& 31).toUInt32).toInt32))]))
                      refine own_go (fun t_ k => XS.iand X35.here hx rfl (hb hby at_239) rfl k) ?_
                      show WP p e below _ (T35.setTop (mkF m 240 #[.val (.int p1), .val (.int p2), .val (.int p3), .val (.long q4), .second, .val (.long q5), .second, .val (.int z2_S0), .val (.int z5_S0), .val (.int z8_S0), .val (.int z11_S0), .val (.int z14_S0), .val (.int vi16), .val (.int z18_S0), .val (.int vi20), .val (.int z22_S0), .val (.int vi24), .val (.int vi25), .val (.int z27_S0), .val (.int z30_S0), .val (.int vi32), .val (.int z34_S0), .val (.int vi36), .unset, .unset, .unset, .unset, .unset, .unset, .unset, .unset, .unset, .unset, .unset, .unset, .unset, .unset, .unset, .unset, .unset, .unset, .unset, .unset, .unset, .unset] [(.int (((p3.toUInt32 >>> ((8 : Int32) &&& 31).toUInt32).toInt32) &&& (255 : Int32)))]))
                      refine own_go (fun t_ k => XS.istore X35.here hx rfl (hb hby at_240) rfl (l' := #[.val (.int p1), .val (.int p2), .val (.int p3), .val (.long q4), .second, .val (.long q5), .second, .val (.int z2_S0), .val (.int z5_S0), .val (.int z8_S0), .val (.int z11_S0), .val (.int z14_S0), .val (.int vi16), .val (.int z18_S0), .val (.int vi20), .val (.int z22_S0), .val (.int vi24), .val (.int vi25), .val (.int z27_S0), .val (.int z30_S0), .val (.int vi32), .val (.int z34_S0), .val (.int vi36), .val (.int (((p3.toUInt32 >>> ((8 : Int32) &&& 31).toUInt32).toInt32) &&& (255 : Int32))), .unset, .unset, .unset, .unset, .unset, .unset, .unset, .unset, .unset, .unset, .unset, .unset, .unset, .unset, .unset, .unset, .unset, .unset, .unset, .unset, .unset]) rfl k) ?_
                      show WP p e below _ (T35.setTop (mkF m 242 #[.val (.int p1), .val (.int p2), .val (.int p3), .val (.long q4), .second, .val (.long q5), .second, .val (.int z2_S0), .val (.int z5_S0), .val (.int z8_S0), .val (.int z11_S0), .val (.int z14_S0), .val (.int vi16), .val (.int z18_S0), .val (.int vi20), .val (.int z22_S0), .val (.int vi24), .val (.int vi25), .val (.int z27_S0), .val (.int z30_S0), .val (.int vi32), .val (.int z34_S0), .val (.int vi36), .val (.int (((p3.toUInt32 >>> ((8 : Int32) &&& 31).toUInt32).toInt32) &&& (255 : Int32))), .unset, .unset, .unset, .unset, .unset, .unset, .unset, .unset, .unset, .unset, .unset, .unset, .unset, .unset, .unset, .unset, .unset, .unset, .unset, .unset, .unset] []))
                      generalize he37 : (((p3.toUInt32 >>> ((8 : Int32) &&& 31).toUInt32).toInt32) &&& (255 : Int32)) = vi37
                      show WP p e below _ (T35.setTop (mkF m 242 #[.val (.int p1), .val (.int p2), .val (.int p3), .val (.long q4), .second, .val (.long q5), .second, .val (.int z2_S0), .val (.int z5_S0), .val (.int z8_S0), .val (.int z11_S0), .val (.int z14_S0), .val (.int vi16), .val (.int z18_S0), .val (.int vi20), .val (.int z22_S0), .val (.int vi24), .val (.int vi25), .val (.int z27_S0), .val (.int z30_S0), .val (.int vi32), .val (.int z34_S0), .val (.int vi36), .val (.int vi37), .unset, .unset, .unset, .unset, .unset, .unset, .unset, .unset, .unset, .unset, .unset, .unset, .unset, .unset, .unset, .unset, .unset, .unset, .unset, .unset, .unset] []))
                      refine own_go (fun t_ k => XS.iload X35.here hx rfl (hb hby at_242) rfl k) ?_
                      show WP p e below _ (T35.setTop (mkF m 244 #[.val (.int p1), .val (.int p2), .val (.int p3), .val (.long q4), .second, .val (.long q5), .second, .val (.int z2_S0), .val (.int z5_S0), .val (.int z8_S0), .val (.int z11_S0), .val (.int z14_S0), .val (.int vi16), .val (.int z18_S0), .val (.int vi20), .val (.int z22_S0), .val (.int vi24), .val (.int vi25), .val (.int z27_S0), .val (.int z30_S0), .val (.int vi32), .val (.int z34_S0), .val (.int vi36), .val (.int vi37), .unset, .unset, .unset, .unset, .unset, .unset, .unset, .unset, .unset, .unset, .unset, .unset, .unset, .unset, .unset, .unset, .unset, .unset, .unset, .unset, .unset] [(.int z8_S0)]))
                      have J40 : ∀ (T40 : State) (ls40 : List Loc) (X40 : Stand p l e room_1 s m #[(.int p1), (.int p2), (.int p3), (.long q4), (.long q5)] below meth c T40 ls40 0 0) (N40 : Fr n0 ls40) (e40 : T40.heap = h0) (z39_S0 : Int32) (hz39_S0 : z39_S0 = (if z8_S0 = (0 : Int32) then (((p3.toUInt32 >>> ((16 : Int32) &&& 31).toUInt32).toInt32) &&& (255 : Int32)) else vi36)), WP p e below (GGW (Q0 n0) s room_1.cells room_1.slots) (T40.setTop (mkF m 260 #[.val (.int p1), .val (.int p2), .val (.int p3), .val (.long q4), .second, .val (.long q5), .second, .val (.int z2_S0), .val (.int z5_S0), .val (.int z8_S0), .val (.int z11_S0), .val (.int z14_S0), .val (.int vi16), .val (.int z18_S0), .val (.int vi20), .val (.int z22_S0), .val (.int vi24), .val (.int vi25), .val (.int z27_S0), .val (.int z30_S0), .val (.int vi32), .val (.int z34_S0), .val (.int vi36), .val (.int vi37), .unset, .unset, .unset, .unset, .unset, .unset, .unset, .unset, .unset, .unset, .unset, .unset, .unset, .unset, .unset, .unset, .unset, .unset, .unset, .unset, .unset] [(.int z39_S0)])) := by
                        intro T40 ls40 X40 N40 e40 z39_S0 hz39_S0
                        show WP p e below _ (T40.setTop (mkF m 260 #[.val (.int p1), .val (.int p2), .val (.int p3), .val (.long q4), .second, .val (.long q5), .second, .val (.int z2_S0), .val (.int z5_S0), .val (.int z8_S0), .val (.int z11_S0), .val (.int z14_S0), .val (.int vi16), .val (.int z18_S0), .val (.int vi20), .val (.int z22_S0), .val (.int vi24), .val (.int vi25), .val (.int z27_S0), .val (.int z30_S0), .val (.int vi32), .val (.int z34_S0), .val (.int vi36), .val (.int vi37), .unset, .unset, .unset, .unset, .unset, .unset, .unset, .unset, .unset, .unset, .unset, .unset, .unset, .unset, .unset, .unset, .unset, .unset, .unset, .unset, .unset] [(.int z39_S0)]))
                        refine own_go (fun t_ k => XS.istore X40.here hx rfl (hb hby at_260) rfl (l' := #[.val (.int p1), .val (.int p2), .val (.int p3), .val (.long q4), .second, .val (.long q5), .second, .val (.int z2_S0), .val (.int z5_S0), .val (.int z8_S0), .val (.int z11_S0), .val (.int z14_S0), .val (.int vi16), .val (.int z18_S0), .val (.int vi20), .val (.int z22_S0), .val (.int vi24), .val (.int vi25), .val (.int z27_S0), .val (.int z30_S0), .val (.int vi32), .val (.int z34_S0), .val (.int vi36), .val (.int vi37), .val (.int z39_S0), .unset, .unset, .unset, .unset, .unset, .unset, .unset, .unset, .unset, .unset, .unset, .unset, .unset, .unset, .unset, .unset, .unset, .unset, .unset, .unset]) rfl k) ?_
                        show WP p e below _ (T40.setTop (mkF m 262 #[.val (.int p1), .val (.int p2), .val (.int p3), .val (.long q4), .second, .val (.long q5), .second, .val (.int z2_S0), .val (.int z5_S0), .val (.int z8_S0), .val (.int z11_S0), .val (.int z14_S0), .val (.int vi16), .val (.int z18_S0), .val (.int vi20), .val (.int z22_S0), .val (.int vi24), .val (.int vi25), .val (.int z27_S0), .val (.int z30_S0), .val (.int vi32), .val (.int z34_S0), .val (.int vi36), .val (.int vi37), .val (.int z39_S0), .unset, .unset, .unset, .unset, .unset, .unset, .unset, .unset, .unset, .unset, .unset, .unset, .unset, .unset, .unset, .unset, .unset, .unset, .unset, .unset] []))
                        refine own_go (fun t_ k => XS.iload X40.here hx rfl (hb hby at_262) rfl k) ?_
                        show WP p e below _ (T40.setTop (mkF m 264 #[.val (.int p1), .val (.int p2), .val (.int p3), .val (.long q4), .second, .val (.long q5), .second, .val (.int z2_S0), .val (.int z5_S0), .val (.int z8_S0), .val (.int z11_S0), .val (.int z14_S0), .val (.int vi16), .val (.int z18_S0), .val (.int vi20), .val (.int z22_S0), .val (.int vi24), .val (.int vi25), .val (.int z27_S0), .val (.int z30_S0), .val (.int vi32), .val (.int z34_S0), .val (.int vi36), .val (.int vi37), .val (.int z39_S0), .unset, .unset, .unset, .unset, .unset, .unset, .unset, .unset, .unset, .unset, .unset, .unset, .unset, .unset, .unset, .unset, .unset, .unset, .unset, .unset] [(.int z8_S0)]))
                        have J43 : ∀ (T43 : State) (ls43 : List Loc) (X43 : Stand p l e room_1 s m #[(.int p1), (.int p2), (.int p3), (.long q4), (.long q5)] below meth c T43 ls43 0 0) (N43 : Fr n0 ls43) (e43 : T43.heap = h0) (z42_S0 : Int32) (hz42_S0 : z42_S0 = (if z8_S0 = (0 : Int32) then (((p3.toUInt32 >>> ((24 : Int32) &&& 31).toUInt32).toInt32) &&& (255 : Int32)) else vi37)), WP p e below (GGW (Q0 n0) s room_1.cells room_1.slots) (T43.setTop (mkF m 280 #[.val (.int p1), .val (.int p2), .val (.int p3), .val (.long q4), .second, .val (.long q5), .second, .val (.int z2_S0), .val (.int z5_S0), .val (.int z8_S0), .val (.int z11_S0), .val (.int z14_S0), .val (.int vi16), .val (.int z18_S0), .val (.int vi20), .val (.int z22_S0), .val (.int vi24), .val (.int vi25), .val (.int z27_S0), .val (.int z30_S0), .val (.int vi32), .val (.int z34_S0), .val (.int vi36), .val (.int vi37), .val (.int z39_S0), .unset, .unset, .unset, .unset, .unset, .unset, .unset, .unset, .unset, .unset, .unset, .unset, .unset, .unset, .unset, .unset, .unset, .unset, .unset, .unset] [(.int z42_S0)])) := by
                          intro T43 ls43 X43 N43 e43 z42_S0 hz42_S0
                          show WP p e below _ (T43.setTop (mkF m 280 #[.val (.int p1), .val (.int p2), .val (.int p3), .val (.long q4), .second, .val (.long q5), .second, .val (.int z2_S0), .val (.int z5_S0), .val (.int z8_S0), .val (.int z11_S0), .val (.int z14_S0), .val (.int vi16), .val (.int z18_S0), .val (.int vi20), .val (.int z22_S0), .val (.int vi24), .val (.int vi25), .val (.int z27_S0), .val (.int z30_S0), .val (.int vi32), .val (.int z34_S0), .val (.int vi36), .val (.int vi37), .val (.int z39_S0), .unset, .unset, .unset, .unset, .unset, .unset, .unset, .unset, .unset, .unset, .unset, .unset, .unset, .unset, .unset, .unset, .unset, .unset, .unset, .unset] [(.int z42_S0)]))
                          refine own_go (fun t_ k => XS.istore X43.here hx rfl (hb hby at_280) rfl (l' := #[.val (.int p1), .val (.int p2), .val (.int p3), .val (.long q4), .second, .val (.long q5), .second, .val (.int z2_S0), .val (.int z5_S0), .val (.int z8_S0), .val (.int z11_S0), .val (.int z14_S0), .val (.int vi16), .val (.int z18_S0), .val (.int vi20), .val (.int z22_S0), .val (.int vi24), .val (.int vi25), .val (.int z27_S0), .val (.int z30_S0), .val (.int vi32), .val (.int z34_S0), .val (.int vi36), .val (.int vi37), .val (.int z39_S0), .val (.int z42_S0), .unset, .unset, .unset, .unset, .unset, .unset, .unset, .unset, .unset, .unset, .unset, .unset, .unset, .unset, .unset, .unset, .unset, .unset, .unset]) rfl k) ?_
                          show WP p e below _ (T43.setTop (mkF m 282 #[.val (.int p1), .val (.int p2), .val (.int p3), .val (.long q4), .second, .val (.long q5), .second, .val (.int z2_S0), .val (.int z5_S0), .val (.int z8_S0), .val (.int z11_S0), .val (.int z14_S0), .val (.int vi16), .val (.int z18_S0), .val (.int vi20), .val (.int z22_S0), .val (.int vi24), .val (.int vi25), .val (.int z27_S0), .val (.int z30_S0), .val (.int vi32), .val (.int z34_S0), .val (.int vi36), .val (.int vi37), .val (.int z39_S0), .val (.int z42_S0), .unset, .unset, .unset, .unset, .unset, .unset, .unset, .unset, .unset, .unset, .unset, .unset, .unset, .unset, .unset, .unset, .unset, .unset, .unset] []))
                          refine own_go (fun t_ k => XS.lloadN X43.here hx rfl (hb hby at_282) rfl k) ?_
                          show WP p e below _ (T43.setTop (mkF m 283 #[.val (.int p1), .val (.int p2), .val (.int p3), .val (.long q4), .second, .val (.long q5), .second, .val (.int z2_S0), .val (.int z5_S0), .val (.int z8_S0), .val (.int z11_S0), .val (.int z14_S0), .val (.int vi16), .val (.int z18_S0), .val (.int vi20), .val (.int z22_S0), .val (.int vi24), .val (.int vi25), .val (.int z27_S0), .val (.int z30_S0), .val (.int vi32), .val (.int z34_S0), .val (.int vi36), .val (.int vi37), .val (.int z39_S0), .val (.int z42_S0), .unset, .unset, .unset, .unset, .unset, .unset, .unset, .unset, .unset, .unset, .unset, .unset, .unset, .unset, .unset, .unset, .unset, .unset, .unset] [(.long q4)]))
                          refine own_go (fun t_ k => XS.bipush X43.here hx rfl (hb hby at_283) k) ?_
                          show WP p e below _ (T43.setTop (mkF m 285 #[.val (.int p1), .val (.int p2), .val (.int p3), .val (.long q4), .second, .val (.long q5), .second, .val (.int z2_S0), .val (.int z5_S0), .val (.int z8_S0), .val (.int z11_S0), .val (.int z14_S0), .val (.int vi16), .val (.int z18_S0), .val (.int vi20), .val (.int z22_S0), .val (.int vi24), .val (.int vi25), .val (.int z27_S0), .val (.int z30_S0), .val (.int vi32), .val (.int z34_S0), .val (.int vi36), .val (.int vi37), .val (.int z39_S0), .val (.int z42_S0), .unset, .unset, .unset, .unset, .unset, .unset, .unset, .unset, .unset, .unset, .unset, .unset, .unset, .unset, .unset, .unset, .unset, .unset, .unset] [(.int (32 : Int32)), (.long q4)]))
                          refine own_go (fun t_ k => XS.lushr X43.here hx rfl (hb hby at_285) rfl k) ?_
                          show WP p e below _ (T43.setTop (mkF m 286 #[.val (.int p1), .val (.int p2), .val (.int p3), .val (.long q4), .second, .val (.long q5), .second, .val (.int z2_S0), .val (.int z5_S0), .val (.int z8_S0), .val (.int z11_S0), .val (.int z14_S0), .val (.int vi16), .val (.int z18_S0), .val (.int vi20), .val (.int z22_S0), .val (.int vi24), .val (.int vi25), .val (.int z27_S0), .val (.int z30_S0), .val (.int vi32), .val (.int z34_S0), .val (.int vi36), .val (.int vi37), .val (.int z39_S0), .val (.int z42_S0), .unset, .unset, .unset, .unset, .unset, .unset, .unset, .unset, .unset, .unset, .unset, .unset, .unset, .unset, .unset, .unset, .unset, .unset, .unset] [(.long ((q4.toUInt64 >>> ((32 : Int32) &&& 0x3f).toInt64.toUInt64).toInt64))]))
                          refine own_go (fun t_ k => XS.l2i X43.here hx rfl (hb hby at_286) rfl k) ?_
                          show WP p e below _ (T43.setTop (mkF m 287 #[.val (.int p1), .val (.int p2), .val (.int p3), .val (.long q4), .second, .val (.long q5), .second, .val (.int z2_S0), .val (.int z5_S0), .val (.int z8_S0), .val (.int z11_S0), .val (.int z14_S0), .val (.int vi16), .val (.int z18_S0), .val (.int vi20), .val (.int z22_S0), .val (.int vi24), .val (.int vi25), .val (.int z27_S0), .val (.int z30_S0), .val (.int vi32), .val (.int z34_S0), .val (.int vi36), .val (.int vi37), .val (.int z39_S0), .val (.int z42_S0), .unset, .unset, .unset, .unset, .unset, .unset, .unset, .unset, .unset, .unset, .unset, .unset, .unset, .unset, .unset, .unset, .unset, .unset, .unset] [(.int (((q4.toUInt64 >>> ((32 : Int32) &&& 0x3f).toInt64.toUInt64).toInt64).toInt32))]))
                          refine own_go (fun t_ k => XS.istore X43.here hx rfl (hb hby at_287) rfl (l' := #[.val (.int p1), .val (.int p2), .val (.int p3), .val (.long q4), .second, .val (.long q5), .second, .val (.int z2_S0), .val (.int z5_S0), .val (.int z8_S0), .val (.int z11_S0), .val (.int z14_S0), .val (.int vi16), .val (.int z18_S0), .val (.int vi20), .val (.int z22_S0), .val (.int vi24), .val (.int vi25), .val (.int z27_S0), .val (.int z30_S0), .val (.int vi32), .val (.int z34_S0), .val (.int vi36), .val (.int vi37), .val (.int z39_S0), .val (.int z42_S0), .val (.int (((q4.toUInt64 >>> ((32 : Int32) &&& 0x3f).toInt64.toUInt64).toInt64).toInt32)), .unset, .unset, .unset, .unset, .unset, .unset, .unset, .unset, .unset, .unset, .unset, .unset, .unset, .unset, .unset, .unset, .unset, .unset]) rfl k) ?_
                          show WP p e below _ (T43.setTop (mkF m 289 #[.val (.int p1), .val (.int p2), .val (.int p3), .val (.long q4), .second, .val (.long q5), .second, .val (.int z2_S0), .val (.int z5_S0), .val (.int z8_S0), .val (.int z11_S0), .val (.int z14_S0), .val (.int vi16), .val (.int z18_S0), .val (.int vi20), .val (.int z22_S0), .val (.int vi24), .val (.int vi25), .val (.int z27_S0), .val (.int z30_S0), .val (.int vi32), .val (.int z34_S0), .val (.int vi36), .val (.int vi37), .val (.int z39_S0), .val (.int z42_S0), .val (.int (((q4.toUInt64 >>> ((32 : Int32) &&& 0x3f).toInt64.toUInt64).toInt64).toInt32)), .unset, .unset, .unset, .unset, .unset, .unset, .unset, .unset, .unset, .unset, .unset, .unset, .unset, .unset, .unset, .unset, .unset, .unset] []))
                          generalize he44 : (((q4.toUInt64 >>> ((32 : Int32) &&& 0x3f).toInt64.toUInt64).toInt64).toInt32) = vi44
                          show WP p e below _ (T43.setTop (mkF m 289 #[.val (.int p1), .val (.int p2), .val (.int p3), .val (.long q4), .second, .val (.long q5), .second, .val (.int z2_S0), .val (.int z5_S0), .val (.int z8_S0), .val (.int z11_S0), .val (.int z14_S0), .val (.int vi16), .val (.int z18_S0), .val (.int vi20), .val (.int z22_S0), .val (.int vi24), .val (.int vi25), .val (.int z27_S0), .val (.int z30_S0), .val (.int vi32), .val (.int z34_S0), .val (.int vi36), .val (.int vi37), .val (.int z39_S0), .val (.int z42_S0), .val (.int vi44), .unset, .unset, .unset, .unset, .unset, .unset, .unset, .unset, .unset, .unset, .unset, .unset, .unset, .unset, .unset, .unset, .unset, .unset] []))
                          refine own_go (fun t_ k => XS.iload X43.here hx rfl (hb hby at_289) rfl k) ?_
                          show WP p e below _ (T43.setTop (mkF m 291 #[.val (.int p1), .val (.int p2), .val (.int p3), .val (.long q4), .second, .val (.long q5), .second, .val (.int z2_S0), .val (.int z5_S0), .val (.int z8_S0), .val (.int z11_S0), .val (.int z14_S0), .val (.int vi16), .val (.int z18_S0), .val (.int vi20), .val (.int z22_S0), .val (.int vi24), .val (.int vi25), .val (.int z27_S0), .val (.int z30_S0), .val (.int vi32), .val (.int z34_S0), .val (.int vi36), .val (.int vi37), .val (.int z39_S0), .val (.int z42_S0), .val (.int vi44), .unset, .unset, .unset, .unset, .unset, .unset, .unset, .unset, .unset, .unset, .unset, .unset, .unset, .unset, .unset, .unset, .unset, .unset] [(.int z11_S0)]))
                          have J47 : ∀ (T47 : State) (ls47 : List Loc) (X47 : Stand p l e room_1 s m #[(.int p1), (.int p2), (.int p3), (.long q4), (.long q5)] below meth c T47 ls47 0 0) (N47 : Fr n0 ls47) (e47 : T47.heap = h0) (z46_S0 : Int32) (hz46_S0 : z46_S0 = (if z11_S0 = (0 : Int32) then (q4.toInt32) else vi44)), WP p e below (GGW (Q0 n0) s room_1.cells room_1.slots) (T47.setTop (mkF m 301 #[.val (.int p1), .val (.int p2), .val (.int p3), .val (.long q4), .second, .val (.long q5), .second, .val (.int z2_S0), .val (.int z5_S0), .val (.int z8_S0), .val (.int z11_S0), .val (.int z14_S0), .val (.int vi16), .val (.int z18_S0), .val (.int vi20), .val (.int z22_S0), .val (.int vi24), .val (.int vi25), .val (.int z27_S0), .val (.int z30_S0), .val (.int vi32), .val (.int z34_S0), .val (.int vi36), .val (.int vi37), .val (.int z39_S0), .val (.int z42_S0), .val (.int vi44), .unset, .unset, .unset, .unset, .unset, .unset, .unset, .unset, .unset, .unset, .unset, .unset, .unset, .unset, .unset, .unset, .unset, .unset] [(.int z46_S0)])) := by
                            intro T47 ls47 X47 N47 e47 z46_S0 hz46_S0
                            show WP p e below _ (T47.setTop (mkF m 301 #[.val (.int p1), .val (.int p2), .val (.int p3), .val (.long q4), .second, .val (.long q5), .second, .val (.int z2_S0), .val (.int z5_S0), .val (.int z8_S0), .val (.int z11_S0), .val (.int z14_S0), .val (.int vi16), .val (.int z18_S0), .val (.int vi20), .val (.int z22_S0), .val (.int vi24), .val (.int vi25), .val (.int z27_S0), .val (.int z30_S0), .val (.int vi32), .val (.int z34_S0), .val (.int vi36), .val (.int vi37), .val (.int z39_S0), .val (.int z42_S0), .val (.int vi44), .unset, .unset, .unset, .unset, .unset, .unset, .unset, .unset, .unset, .unset, .unset, .unset, .unset, .unset, .unset, .unset, .unset, .unset] [(.int z46_S0)]))
                            refine own_go (fun t_ k => XS.istore X47.here hx rfl (hb hby at_301) rfl (l' := #[.val (.int p1), .val (.int p2), .val (.int p3), .val (.long q4), .second, .val (.long q5), .second, .val (.int z2_S0), .val (.int z5_S0), .val (.int z8_S0), .val (.int z11_S0), .val (.int z14_S0), .val (.int vi16), .val (.int z18_S0), .val (.int vi20), .val (.int z22_S0), .val (.int vi24), .val (.int vi25), .val (.int z27_S0), .val (.int z30_S0), .val (.int vi32), .val (.int z34_S0), .val (.int vi36), .val (.int vi37), .val (.int z39_S0), .val (.int z42_S0), .val (.int vi44), .val (.int z46_S0), .unset, .unset, .unset, .unset, .unset, .unset, .unset, .unset, .unset, .unset, .unset, .unset, .unset, .unset, .unset, .unset, .unset]) rfl k) ?_
                            show WP p e below _ (T47.setTop (mkF m 303 #[.val (.int p1), .val (.int p2), .val (.int p3), .val (.long q4), .second, .val (.long q5), .second, .val (.int z2_S0), .val (.int z5_S0), .val (.int z8_S0), .val (.int z11_S0), .val (.int z14_S0), .val (.int vi16), .val (.int z18_S0), .val (.int vi20), .val (.int z22_S0), .val (.int vi24), .val (.int vi25), .val (.int z27_S0), .val (.int z30_S0), .val (.int vi32), .val (.int z34_S0), .val (.int vi36), .val (.int vi37), .val (.int z39_S0), .val (.int z42_S0), .val (.int vi44), .val (.int z46_S0), .unset, .unset, .unset, .unset, .unset, .unset, .unset, .unset, .unset, .unset, .unset, .unset, .unset, .unset, .unset, .unset, .unset] []))
                            refine own_go (fun t_ k => XS.lload X47.here hx rfl (hb hby at_303) rfl k) ?_
                            show WP p e below _ (T47.setTop (mkF m 305 #[.val (.int p1), .val (.int p2), .val (.int p3), .val (.long q4), .second, .val (.long q5), .second, .val (.int z2_S0), .val (.int z5_S0), .val (.int z8_S0), .val (.int z11_S0), .val (.int z14_S0), .val (.int vi16), .val (.int z18_S0), .val (.int vi20), .val (.int z22_S0), .val (.int vi24), .val (.int vi25), .val (.int z27_S0), .val (.int z30_S0), .val (.int vi32), .val (.int z34_S0), .val (.int vi36), .val (.int vi37), .val (.int z39_S0), .val (.int z42_S0), .val (.int vi44), .val (.int z46_S0), .unset, .unset, .unset, .unset, .unset, .unset, .unset, .unset, .unset, .unset, .unset, .unset, .unset, .unset, .unset, .unset, .unset] [(.long q5)]))
                            refine own_go (fun t_ k => XS.bipush X47.here hx rfl (hb hby at_305) k) ?_
                            show WP p e below _ (T47.setTop (mkF m 307 #[.val (.int p1), .val (.int p2), .val (.int p3), .val (.long q4), .second, .val (.long q5), .second, .val (.int z2_S0), .val (.int z5_S0), .val (.int z8_S0), .val (.int z11_S0), .val (.int z14_S0), .val (.int vi16), .val (.int z18_S0), .val (.int vi20), .val (.int z22_S0), .val (.int vi24), .val (.int vi25), .val (.int z27_S0), .val (.int z30_S0), .val (.int vi32), .val (.int z34_S0), .val (.int vi36), .val (.int vi37), .val (.int z39_S0), .val (.int z42_S0), .val (.int vi44), .val (.int z46_S0), .unset, .unset, .unset, .unset, .unset, .unset, .unset, .unset, .unset, .unset, .unset, .unset, .unset, .unset, .unset, .unset, .unset] [(.int (32 : Int32)), (.long q5)]))
                            refine own_go (fun t_ k => XS.lushr X47.here hx rfl (hb hby at_307) rfl k) ?_
                            show WP p e below _ (T47.setTop (mkF m 308 #[.val (.int p1), .val (.int p2), .val (.int p3), .val (.long q4), .second, .val (.long q5), .second, .val (.int z2_S0), .val (.int z5_S0), .val (.int z8_S0), .val (.int z11_S0), .val (.int z14_S0), .val (.int vi16), .val (.int z18_S0), .val (.int vi20), .val (.int z22_S0), .val (.int vi24), .val (.int vi25), .val (.int z27_S0), .val (.int z30_S0), .val (.int vi32), .val (.int z34_S0), .val (.int vi36), .val (.int vi37), .val (.int z39_S0), .val (.int z42_S0), .val (.int vi44), .val (.int z46_S0), .unset, .unset, .unset, .unset, .unset, .unset, .unset, .unset, .unset, .unset, .unset, .unset, .unset, .unset, .unset, .unset, .unset] [(.long ((q5.toUInt64 >>> ((32 : Int32) &&& 0x3f).toInt64.toUInt64).toInt64))]))
                            refine own_go (fun t_ k => XS.l2i X47.here hx rfl (hb hby at_308) rfl k) ?_
                            show WP p e below _ (T47.setTop (mkF m 309 #[.val (.int p1), .val (.int p2), .val (.int p3), .val (.long q4), .second, .val (.long q5), .second, .val (.int z2_S0), .val (.int z5_S0), .val (.int z8_S0), .val (.int z11_S0), .val (.int z14_S0), .val (.int vi16), .val (.int z18_S0), .val (.int vi20), .val (.int z22_S0), .val (.int vi24), .val (.int vi25), .val (.int z27_S0), .val (.int z30_S0), .val (.int vi32), .val (.int z34_S0), .val (.int vi36), .val (.int vi37), .val (.int z39_S0), .val (.int z42_S0), .val (.int vi44), .val (.int z46_S0), .unset, .unset, .unset, .unset, .unset, .unset, .unset, .unset, .unset, .unset, .unset, .unset, .unset, .unset, .unset, .unset, .unset] [(.int (((q5.toUInt64 >>> ((32 : Int32) &&& 0x3f).toInt64.toUInt64).toInt64).toInt32))]))
                            refine own_go (fun t_ k => XS.istore X47.here hx rfl (hb hby at_309) rfl (l' := #[.val (.int p1), .val (.int p2), .val (.int p3), .val (.long q4), .second, .val (.long q5), .second, .val (.int z2_S0), .val (.int z5_S0), .val (.int z8_S0), .val (.int z11_S0), .val (.int z14_S0), .val (.int vi16), .val (.int z18_S0), .val (.int vi20), .val (.int z22_S0), .val (.int vi24), .val (.int vi25), .val (.int z27_S0), .val (.int z30_S0), .val (.int vi32), .val (.int z34_S0), .val (.int vi36), .val (.int vi37), .val (.int z39_S0), .val (.int z42_S0), .val (.int vi44), .val (.int z46_S0), .val (.int (((q5.toUInt64 >>> ((32 : Int32) &&& 0x3f).toInt64.toUInt64).toInt64).toInt32)), .unset, .unset, .unset, .unset, .unset, .unset, .unset, .unset, .unset, .unset, .unset, .unset, .unset, .unset, .unset, .unset]) rfl k) ?_
                            show WP p e below _ (T47.setTop (mkF m 311 #[.val (.int p1), .val (.int p2), .val (.int p3), .val (.long q4), .second, .val (.long q5), .second, .val (.int z2_S0), .val (.int z5_S0), .val (.int z8_S0), .val (.int z11_S0), .val (.int z14_S0), .val (.int vi16), .val (.int z18_S0), .val (.int vi20), .val (.int z22_S0), .val (.int vi24), .val (.int vi25), .val (.int z27_S0), .val (.int z30_S0), .val (.int vi32), .val (.int z34_S0), .val (.int vi36), .val (.int vi37), .val (.int z39_S0), .val (.int z42_S0), .val (.int vi44), .val (.int z46_S0), .val (.int (((q5.toUInt64 >>> ((32 : Int32) &&& 0x3f).toInt64.toUInt64).toInt64).toInt32)), .unset, .unset, .unset, .unset, .unset, .unset, .unset, .unset, .unset, .unset, .unset, .unset, .unset, .unset, .unset, .unset] []))
                            generalize he48 : (((q5.toUInt64 >>> ((32 : Int32) &&& 0x3f).toInt64.toUInt64).toInt64).toInt32) = vi48
                            show WP p e below _ (T47.setTop (mkF m 311 #[.val (.int p1), .val (.int p2), .val (.int p3), .val (.long q4), .second, .val (.long q5), .second, .val (.int z2_S0), .val (.int z5_S0), .val (.int z8_S0), .val (.int z11_S0), .val (.int z14_S0), .val (.int vi16), .val (.int z18_S0), .val (.int vi20), .val (.int z22_S0), .val (.int vi24), .val (.int vi25), .val (.int z27_S0), .val (.int z30_S0), .val (.int vi32), .val (.int z34_S0), .val (.int vi36), .val (.int vi37), .val (.int z39_S0), .val (.int z42_S0), .val (.int vi44), .val (.int z46_S0), .val (.int vi48), .unset, .unset, .unset, .unset, .unset, .unset, .unset, .unset, .unset, .unset, .unset, .unset, .unset, .unset, .unset, .unset] []))
                            refine own_go (fun t_ k => XS.iload X47.here hx rfl (hb hby at_311) rfl k) ?_
                            show WP p e below _ (T47.setTop (mkF m 313 #[.val (.int p1), .val (.int p2), .val (.int p3), .val (.long q4), .second, .val (.long q5), .second, .val (.int z2_S0), .val (.int z5_S0), .val (.int z8_S0), .val (.int z11_S0), .val (.int z14_S0), .val (.int vi16), .val (.int z18_S0), .val (.int vi20), .val (.int z22_S0), .val (.int vi24), .val (.int vi25), .val (.int z27_S0), .val (.int z30_S0), .val (.int vi32), .val (.int z34_S0), .val (.int vi36), .val (.int vi37), .val (.int z39_S0), .val (.int z42_S0), .val (.int vi44), .val (.int z46_S0), .val (.int vi48), .unset, .unset, .unset, .unset, .unset, .unset, .unset, .unset, .unset, .unset, .unset, .unset, .unset, .unset, .unset, .unset] [(.int z14_S0)]))
                            have J51 : ∀ (T51 : State) (ls51 : List Loc) (X51 : Stand p l e room_1 s m #[(.int p1), (.int p2), (.int p3), (.long q4), (.long q5)] below meth c T51 ls51 0 0) (N51 : Fr n0 ls51) (e51 : T51.heap = h0) (z50_S0 : Int32) (hz50_S0 : z50_S0 = (if z14_S0 = (0 : Int32) then (q5.toInt32) else vi48)), WP p e below (GGW (Q0 n0) s room_1.cells room_1.slots) (T51.setTop (mkF m 324 #[.val (.int p1), .val (.int p2), .val (.int p3), .val (.long q4), .second, .val (.long q5), .second, .val (.int z2_S0), .val (.int z5_S0), .val (.int z8_S0), .val (.int z11_S0), .val (.int z14_S0), .val (.int vi16), .val (.int z18_S0), .val (.int vi20), .val (.int z22_S0), .val (.int vi24), .val (.int vi25), .val (.int z27_S0), .val (.int z30_S0), .val (.int vi32), .val (.int z34_S0), .val (.int vi36), .val (.int vi37), .val (.int z39_S0), .val (.int z42_S0), .val (.int vi44), .val (.int z46_S0), .val (.int vi48), .unset, .unset, .unset, .unset, .unset, .unset, .unset, .unset, .unset, .unset, .unset, .unset, .unset, .unset, .unset, .unset] [(.int z50_S0)])) := by
                              intro T51 ls51 X51 N51 e51 z50_S0 hz50_S0
                              show WP p e below _ (T51.setTop (mkF m 324 #[.val (.int p1), .val (.int p2), .val (.int p3), .val (.long q4), .second, .val (.long q5), .second, .val (.int z2_S0), .val (.int z5_S0), .val (.int z8_S0), .val (.int z11_S0), .val (.int z14_S0), .val (.int vi16), .val (.int z18_S0), .val (.int vi20), .val (.int z22_S0), .val (.int vi24), .val (.int vi25), .val (.int z27_S0), .val (.int z30_S0), .val (.int vi32), .val (.int z34_S0), .val (.int vi36), .val (.int vi37), .val (.int z39_S0), .val (.int z42_S0), .val (.int vi44), .val (.int z46_S0), .val (.int vi48), .unset, .unset, .unset, .unset, .unset, .unset, .unset, .unset, .unset, .unset, .unset, .unset, .unset, .unset, .unset, .unset] [(.int z50_S0)]))
                              refine own_go (fun t_ k => XS.istore X51.here hx rfl (hb hby at_324) rfl (l' := #[.val (.int p1), .val (.int p2), .val (.int p3), .val (.long q4), .second, .val (.long q5), .second, .val (.int z2_S0), .val (.int z5_S0), .val (.int z8_S0), .val (.int z11_S0), .val (.int z14_S0), .val (.int vi16), .val (.int z18_S0), .val (.int vi20), .val (.int z22_S0), .val (.int vi24), .val (.int vi25), .val (.int z27_S0), .val (.int z30_S0), .val (.int vi32), .val (.int z34_S0), .val (.int vi36), .val (.int vi37), .val (.int z39_S0), .val (.int z42_S0), .val (.int vi44), .val (.int z46_S0), .val (.int vi48), .val (.int z50_S0), .unset, .unset, .unset, .unset, .unset, .unset, .unset, .unset, .unset, .unset, .unset, .unset, .unset, .unset, .unset]) rfl k) ?_
                              show WP p e below _ (T51.setTop (mkF m 326 #[.val (.int p1), .val (.int p2), .val (.int p3), .val (.long q4), .second, .val (.long q5), .second, .val (.int z2_S0), .val (.int z5_S0), .val (.int z8_S0), .val (.int z11_S0), .val (.int z14_S0), .val (.int vi16), .val (.int z18_S0), .val (.int vi20), .val (.int z22_S0), .val (.int vi24), .val (.int vi25), .val (.int z27_S0), .val (.int z30_S0), .val (.int vi32), .val (.int z34_S0), .val (.int vi36), .val (.int vi37), .val (.int z39_S0), .val (.int z42_S0), .val (.int vi44), .val (.int z46_S0), .val (.int vi48), .val (.int z50_S0), .unset, .unset, .unset, .unset, .unset, .unset, .unset, .unset, .unset, .unset, .unset, .unset, .unset, .unset, .unset] []))
                              refine own_go (fun t_ k => XS.iload X51.here hx rfl (hb hby at_326) rfl k) ?_
                              show WP p e below _ (T51.setTop (mkF m 328 #[.val (.int p1), .val (.int p2), .val (.int p3), .val (.long q4), .second, .val (.long q5), .second, .val (.int z2_S0), .val (.int z5_S0), .val (.int z8_S0), .val (.int z11_S0), .val (.int z14_S0), .val (.int vi16), .val (.int z18_S0), .val (.int vi20), .val (.int z22_S0), .val (.int vi24), .val (.int vi25), .val (.int z27_S0), .val (.int z30_S0), .val (.int vi32), .val (.int z34_S0), .val (.int vi36), .val (.int vi37), .val (.int z39_S0), .val (.int z42_S0), .val (.int vi44), .val (.int z46_S0), .val (.int vi48), .val (.int z50_S0), .unset, .unset, .unset, .unset, .unset, .unset, .unset, .unset, .unset, .unset, .unset, .unset, .unset, .unset, .unset] [(.int vi20)]))
                              refine own_go (fun t_ k => XS.iload X51.here hx rfl (hb hby at_328) rfl k) ?_
                              show WP p e below _ (T51.setTop (mkF m 330 #[.val (.int p1), .val (.int p2), .val (.int p3), .val (.long q4), .second, .val (.long q5), .second, .val (.int z2_S0), .val (.int z5_S0), .val (.int z8_S0), .val (.int z11_S0), .val (.int z14_S0), .val (.int vi16), .val (.int z18_S0), .val (.int vi20), .val (.int z22_S0), .val (.int vi24), .val (.int vi25), .val (.int z27_S0), .val (.int z30_S0), .val (.int vi32), .val (.int z34_S0), .val (.int vi36), .val (.int vi37), .val (.int z39_S0), .val (.int z42_S0), .val (.int vi44), .val (.int z46_S0), .val (.int vi48), .val (.int z50_S0), .unset, .unset, .unset, .unset, .unset, .unset, .unset, .unset, .unset, .unset, .unset, .unset, .unset, .unset, .unset] [(.int vi24), (.int vi20)]))
                              refine own_go (fun t_ k => XS.iload X51.here hx rfl (hb hby at_330) rfl k) ?_
                              show WP p e below _ (T51.setTop (mkF m 332 #[.val (.int p1), .val (.int p2), .val (.int p3), .val (.long q4), .second, .val (.long q5), .second, .val (.int z2_S0), .val (.int z5_S0), .val (.int z8_S0), .val (.int z11_S0), .val (.int z14_S0), .val (.int vi16), .val (.int z18_S0), .val (.int vi20), .val (.int z22_S0), .val (.int vi24), .val (.int vi25), .val (.int z27_S0), .val (.int z30_S0), .val (.int vi32), .val (.int z34_S0), .val (.int vi36), .val (.int vi37), .val (.int z39_S0), .val (.int z42_S0), .val (.int vi44), .val (.int z46_S0), .val (.int vi48), .val (.int z50_S0), .unset, .unset, .unset, .unset, .unset, .unset, .unset, .unset, .unset, .unset, .unset, .unset, .unset, .unset, .unset] [(.int vi25), (.int vi24), (.int vi20)]))
                              obtain ⟨_, T52, Lc52, X52, Sc52, hsz52, hQ52, hCr52, st52⟩ := own_unS X51 4 8 (Jvm.RoadKit.callSS X51 hx (y := (⟨"com/example/covenant_atlas/covenantatlas/model/OutlineEntryEqualsPinLaw", "str", "(III)Ljava/lang/String;"⟩ : MethodName)) hown (mvT hZ (hw _ (List.mem_of_getElem? (i := 0) rfl))) (mvT hZ (hw _ (List.mem_of_getElem? (i := 1) rfl))) (mvT hZ (hw _ (List.mem_of_getElem? (i := 2) rfl))) (mvT hZ (hw _ (List.mem_of_getElem? (i := 3) rfl))) (by decide) (backOfSH (s := s) (vm0 := s.vm) (EL := EL0) (W := 0) (rmStr l Z a0 hw [] vi20 vi24 vi25 cs h0 n0 (Nat.le_trans Z0 (Keep.refl h0 []).1) S_c hcs (own_B he24) (own_B he25) (own_T he20)) hZ (hw _ (List.mem_of_getElem? (i := 3) rfl)) (hw _ (List.mem_of_getElem? (i := 2) rfl)) (by decide) (by decide) hEL (hC0)) (g := (mkF m 332 #[.val (.int p1), .val (.int p2), .val (.int p3), .val (.long q4), .second, .val (.long q5), .second, .val (.int z2_S0), .val (.int z5_S0), .val (.int z8_S0), .val (.int z11_S0), .val (.int z14_S0), .val (.int vi16), .val (.int z18_S0), .val (.int vi20), .val (.int z22_S0), .val (.int vi24), .val (.int vi25), .val (.int z27_S0), .val (.int z30_S0), .val (.int vi32), .val (.int z34_S0), .val (.int vi36), .val (.int vi37), .val (.int z39_S0), .val (.int z42_S0), .val (.int vi44), .val (.int z46_S0), .val (.int vi48), .val (.int z50_S0), .unset, .unset, .unset, .unset, .unset, .unset, .unset, .unset, .unset, .unset, .unset, .unset, .unset, .unset, .unset] [(.int vi25), (.int vi24), (.int vi20)])) rfl (by rw [hml]; rfl) (argsL := [(.int vi20), (.int vi24), (.int vi25)]) (rest := []) (lenOf pd_8 rfl) rfl (by show 2 * 0 + _ ≤ _; exact Nat.le_of_eq rfl) (hb hby at_332) (fun _ _ => ⟨rfl, e51, (by decide : 0 + 4 ≤ _), (by decide : 0 + 8 ≤ _)⟩))
                              dsimp only [Pt.U] at st52
                              have hZ : Z.Warmed39 (s.setVm T52.vm).vm := own_hZ hZ Sc52
                              have hown : (s.setVm T52.vm).vm.findClass "com/example/covenant_atlas/covenantatlas/model/OutlineEntryEqualsPinLaw" = some m.cls := own_hown hown Sc52
                              have Sn52 : s.Since T52.vm T52.heap.size := Sc52
                              have er52 : T52.heap = T52.heap := rfl
                              obtain ⟨sa52, sb52, sk52, sn52, sx52, rfl, N52q, K52c, sz52, E52c, Fc52c, Fv52c, V52c, nb52, SX52⟩ := hQ52
                              have N52 := Fr.app N51 N52q
                              replace X52 : Stand p l e room_1 (s.setVm T52.vm) m _ below meth c T52 _ 4 8 := X52
                              refine own_go (fun t_ k => st52.trans k) ?_
                              have Sk52_0 := own_sta_k S_c K52c (own_pl0)
                              have Sk52_1 := own_sta_k Sk0 K52c (own_pl0)
                              have Sk52_2 := own_sta_k Sk1 K52c (own_pl0)
                              have Sk52_3 := own_sta_k Sk2 K52c (own_pl0)
                              have Sk52_4 := own_sta_k Sk3 K52c (own_pl0)
                              have Sk52_5 := own_sta_k Sk4 K52c (own_pl0)
                              have g_sa52 : n0 ≤ sa52 := Nat.le_trans (Nat.le_trans Z0 (Keep.refl h0 []).1) sz52
                              have szz_sa52 : h0.size ≤ sa52 := Nat.le_trans (Keep.refl h0 []).1 sz52
                              have ne_kq0_sa52 : kq0 ≠ sa52 := Nat.ne_of_lt (Nat.lt_of_lt_of_le Ek0.lt sz52)
                              have ne_kq1_sa52 : kq1 ≠ sa52 := Nat.ne_of_lt (Nat.lt_of_lt_of_le Ek1.lt sz52)
                              have ne_kq2_sa52 : kq2 ≠ sa52 := Nat.ne_of_lt (Nat.lt_of_lt_of_le Ek2.lt sz52)
                              have ne_kq3_sa52 : kq3 ≠ sa52 := Nat.ne_of_lt (Nat.lt_of_lt_of_le Ek3.lt sz52)
                              have ne_kq4_sa52 : kq4 ≠ sa52 := Nat.ne_of_lt (Nat.lt_of_lt_of_le Ek4.lt sz52)
                              have K52 : Keep h0 T52.heap [] := (Keep.refl h0 []).trans K52c all0
                              show WP p e below _ (T52.setTop (mkF m 335 #[.val (.int p1), .val (.int p2), .val (.int p3), .val (.long q4), .second, .val (.long q5), .second, .val (.int z2_S0), .val (.int z5_S0), .val (.int z8_S0), .val (.int z11_S0), .val (.int z14_S0), .val (.int vi16), .val (.int z18_S0), .val (.int vi20), .val (.int z22_S0), .val (.int vi24), .val (.int vi25), .val (.int z27_S0), .val (.int z30_S0), .val (.int vi32), .val (.int z34_S0), .val (.int vi36), .val (.int vi37), .val (.int z39_S0), .val (.int z42_S0), .val (.int vi44), .val (.int z46_S0), .val (.int vi48), .val (.int z50_S0), .unset, .unset, .unset, .unset, .unset, .unset, .unset, .unset, .unset, .unset, .unset, .unset, .unset, .unset, .unset] [(.ref sa52)]))
                              refine own_go (fun t_ k => XS.astore X52.here hx rfl (hb hby at_335) rfl rfl (l' := #[.val (.int p1), .val (.int p2), .val (.int p3), .val (.long q4), .second, .val (.long q5), .second, .val (.int z2_S0), .val (.int z5_S0), .val (.int z8_S0), .val (.int z11_S0), .val (.int z14_S0), .val (.int vi16), .val (.int z18_S0), .val (.int vi20), .val (.int z22_S0), .val (.int vi24), .val (.int vi25), .val (.int z27_S0), .val (.int z30_S0), .val (.int vi32), .val (.int z34_S0), .val (.int vi36), .val (.int vi37), .val (.int z39_S0), .val (.int z42_S0), .val (.int vi44), .val (.int z46_S0), .val (.int vi48), .val (.int z50_S0), .val (.ref sa52), .unset, .unset, .unset, .unset, .unset, .unset, .unset, .unset, .unset, .unset, .unset, .unset, .unset, .unset]) rfl k) ?_
                              show WP p e below _ (T52.setTop (mkF m 337 #[.val (.int p1), .val (.int p2), .val (.int p3), .val (.long q4), .second, .val (.long q5), .second, .val (.int z2_S0), .val (.int z5_S0), .val (.int z8_S0), .val (.int z11_S0), .val (.int z14_S0), .val (.int vi16), .val (.int z18_S0), .val (.int vi20), .val (.int z22_S0), .val (.int vi24), .val (.int vi25), .val (.int z27_S0), .val (.int z30_S0), .val (.int vi32), .val (.int z34_S0), .val (.int vi36), .val (.int vi37), .val (.int z39_S0), .val (.int z42_S0), .val (.int vi44), .val (.int z46_S0), .val (.int vi48), .val (.int z50_S0), .val (.ref sa52), .unset, .unset, .unset, .unset, .unset, .unset, .unset, .unset, .unset, .unset, .unset, .unset, .unset, .unset] []))
                              refine own_go (fun t_ k => XS.iload X52.here hx rfl (hb hby at_337) rfl k) ?_
                              show WP p e below _ (T52.setTop (mkF m 339 #[.val (.int p1), .val (.int p2), .val (.int p3), .val (.long q4), .second, .val (.long q5), .second, .val (.int z2_S0), .val (.int z5_S0), .val (.int z8_S0), .val (.int z11_S0), .val (.int z14_S0), .val (.int vi16), .val (.int z18_S0), .val (.int vi20), .val (.int z22_S0), .val (.int vi24), .val (.int vi25), .val (.int z27_S0), .val (.int z30_S0), .val (.int vi32), .val (.int z34_S0), .val (.int vi36), .val (.int vi37), .val (.int z39_S0), .val (.int z42_S0), .val (.int vi44), .val (.int z46_S0), .val (.int vi48), .val (.int z50_S0), .val (.ref sa52), .unset, .unset, .unset, .unset, .unset, .unset, .unset, .unset, .unset, .unset, .unset, .unset, .unset, .unset] [(.int z22_S0)]))
                              refine own_go (fun t_ k => XS.iload X52.here hx rfl (hb hby at_339) rfl k) ?_
                              show WP p e below _ (T52.setTop (mkF m 341 #[.val (.int p1), .val (.int p2), .val (.int p3), .val (.long q4), .second, .val (.long q5), .second, .val (.int z2_S0), .val (.int z5_S0), .val (.int z8_S0), .val (.int z11_S0), .val (.int z14_S0), .val (.int vi16), .val (.int z18_S0), .val (.int vi20), .val (.int z22_S0), .val (.int vi24), .val (.int vi25), .val (.int z27_S0), .val (.int z30_S0), .val (.int vi32), .val (.int z34_S0), .val (.int vi36), .val (.int vi37), .val (.int z39_S0), .val (.int z42_S0), .val (.int vi44), .val (.int z46_S0), .val (.int vi48), .val (.int z50_S0), .val (.ref sa52), .unset, .unset, .unset, .unset, .unset, .unset, .unset, .unset, .unset, .unset, .unset, .unset, .unset, .unset] [(.int z27_S0), (.int z22_S0)]))
                              refine own_go (fun t_ k => XS.iload X52.here hx rfl (hb hby at_341) rfl k) ?_
                              show WP p e below _ (T52.setTop (mkF m 343 #[.val (.int p1), .val (.int p2), .val (.int p3), .val (.long q4), .second, .val (.long q5), .second, .val (.int z2_S0), .val (.int z5_S0), .val (.int z8_S0), .val (.int z11_S0), .val (.int z14_S0), .val (.int vi16), .val (.int z18_S0), .val (.int vi20), .val (.int z22_S0), .val (.int vi24), .val (.int vi25), .val (.int z27_S0), .val (.int z30_S0), .val (.int vi32), .val (.int z34_S0), .val (.int vi36), .val (.int vi37), .val (.int z39_S0), .val (.int z42_S0), .val (.int vi44), .val (.int z46_S0), .val (.int vi48), .val (.int z50_S0), .val (.ref sa52), .unset, .unset, .unset, .unset, .unset, .unset, .unset, .unset, .unset, .unset, .unset, .unset, .unset, .unset] [(.int z30_S0), (.int z27_S0), (.int z22_S0)]))
                              obtain ⟨_, T53, Lc53, X53, Sc53, hsz53, hQ53, hCr53, st53⟩ := own_unS X52 4 8 (Jvm.RoadKit.callSS X52 hx (y := (⟨"com/example/covenant_atlas/covenantatlas/model/OutlineEntryEqualsPinLaw", "str", "(III)Ljava/lang/String;"⟩ : MethodName)) hown (mvT hZ (hw _ (List.mem_of_getElem? (i := 0) rfl))) (mvT hZ (hw _ (List.mem_of_getElem? (i := 1) rfl))) (mvT hZ (hw _ (List.mem_of_getElem? (i := 2) rfl))) (mvT hZ (hw _ (List.mem_of_getElem? (i := 3) rfl))) (by decide) (backOfSH (s := s) (vm0 := T52.vm) (EL := EL0) (W := 0) (rmStr l Z a0 hw [] z22_S0 z27_S0 z30_S0 cs T52.heap n0 (Nat.le_trans Z0 K52.1) Sk52_0 hcs (own_iteB hz27_S0 (own_B rfl) (own_B he24)) (own_iteB hz30_S0 (own_B rfl) (own_B he25)) (own_iteT hz22_S0 (own_T rfl) (own_T he20))) hZ (hw _ (List.mem_of_getElem? (i := 3) rfl)) (hw _ (List.mem_of_getElem? (i := 2) rfl)) (by decide) (by decide) hEL (hCr52.1)) (g := (mkF m 343 #[.val (.int p1), .val (.int p2), .val (.int p3), .val (.long q4), .second, .val (.long q5), .second, .val (.int z2_S0), .val (.int z5_S0), .val (.int z8_S0), .val (.int z11_S0), .val (.int z14_S0), .val (.int vi16), .val (.int z18_S0), .val (.int vi20), .val (.int z22_S0), .val (.int vi24), .val (.int vi25), .val (.int z27_S0), .val (.int z30_S0), .val (.int vi32), .val (.int z34_S0), .val (.int vi36), .val (.int vi37), .val (.int z39_S0), .val (.int z42_S0), .val (.int vi44), .val (.int z46_S0), .val (.int vi48), .val (.int z50_S0), .val (.ref sa52), .unset, .unset, .unset, .unset, .unset, .unset, .unset, .unset, .unset, .unset, .unset, .unset, .unset, .unset] [(.int z30_S0), (.int z27_S0), (.int z22_S0)])) rfl (by rw [hml]; rfl) (argsL := [(.int z22_S0), (.int z27_S0), (.int z30_S0)]) (rest := []) (lenOf pd_8 rfl) rfl (by show 2 * 0 + _ ≤ _; exact Nat.le_of_eq rfl) (hb hby at_343) (fun _ _ => ⟨rfl, er52, (by decide : 4 + 4 ≤ _), (by decide : 8 + 8 ≤ _)⟩))
                              dsimp only [Pt.U] at st53
                              have hZ : Z.Warmed39 (s.setVm T53.vm).vm := own_hZ hZ Sc53
                              have hown : (s.setVm T53.vm).vm.findClass "com/example/covenant_atlas/covenantatlas/model/OutlineEntryEqualsPinLaw" = some m.cls := own_hown hown Sc53
                              have Sn53 : s.Since T53.vm T53.heap.size := State.Since.trans Sn52 Sc53 (Nat.le_trans (by rw [er52]; exact (Nat.le_refl _)) hsz53)
                              have er53 : T53.heap = T53.heap := rfl
                              obtain ⟨sa53, sb53, sk53, sn53, sx53, rfl, N53q, K53c, sz53, E53c, Fc53c, Fv53c, V53c, nb53, SX53⟩ := hQ53
                              have N53 := Fr.app N52 N53q
                              replace X53 : Stand p l e room_1 (s.setVm T53.vm) m _ below meth c T53 _ 8 16 := X53
                              refine own_go (fun t_ k => st53.trans k) ?_
                              have Sk53_0 := own_sta_k Sk52_0 K53c (own_pl0)
                              have Sk53_1 := own_sta_k Sk52_1 K53c (own_pl0)
                              have Sk53_2 := own_sta_k Sk52_2 K53c (own_pl0)
                              have Sk53_3 := own_sta_k Sk52_3 K53c (own_pl0)
                              have Sk53_4 := own_sta_k Sk52_4 K53c (own_pl0)
                              have Sk53_5 := own_sta_k Sk52_5 K53c (own_pl0)
                              have g_sa53 : n0 ≤ sa53 := Nat.le_trans (Nat.le_trans Z0 K52.1) sz53
                              have szz_sa53 : h0.size ≤ sa53 := Nat.le_trans K52.1 sz53
                              have ne_kq0_sa53 : kq0 ≠ sa53 := Nat.ne_of_lt (Nat.lt_of_lt_of_le (Ek0.keep K52c).lt sz53)
                              have ne_kq1_sa53 : kq1 ≠ sa53 := Nat.ne_of_lt (Nat.lt_of_lt_of_le (Ek1.keep K52c).lt sz53)
                              have ne_kq2_sa53 : kq2 ≠ sa53 := Nat.ne_of_lt (Nat.lt_of_lt_of_le (Ek2.keep K52c).lt sz53)
                              have ne_kq3_sa53 : kq3 ≠ sa53 := Nat.ne_of_lt (Nat.lt_of_lt_of_le (Ek3.keep K52c).lt sz53)
                              have ne_kq4_sa53 : kq4 ≠ sa53 := Nat.ne_of_lt (Nat.lt_of_lt_of_le (Ek4.keep K52c).lt sz53)
                              have ne_sa52_sa53 : sa52 ≠ sa53 := Nat.ne_of_lt (Nat.lt_of_lt_of_le E52c.lt sz53)
                              have ne_sb52_sa53 : sb52 ≠ sa53 := Nat.ne_of_lt (Nat.lt_of_lt_of_le V52c.lt sz53)
                              have K53 : Keep h0 T53.heap [] := K52.trans K53c all0
                              show WP p e below _ (T53.setTop (mkF m 346 #[.val (.int p1), .val (.int p2), .val (.int p3), .val (.long q4), .second, .val (.long q5), .second, .val (.int z2_S0), .val (.int z5_S0), .val (.int z8_S0), .val (.int z11_S0), .val (.int z14_S0), .val (.int vi16), .val (.int z18_S0), .val (.int vi20), .val (.int z22_S0), .val (.int vi24), .val (.int vi25), .val (.int z27_S0), .val (.int z30_S0), .val (.int vi32), .val (.int z34_S0), .val (.int vi36), .val (.int vi37), .val (.int z39_S0), .val (.int z42_S0), .val (.int vi44), .val (.int z46_S0), .val (.int vi48), .val (.int z50_S0), .val (.ref sa52), .unset, .unset, .unset, .unset, .unset, .unset, .unset, .unset, .unset, .unset, .unset, .unset, .unset, .unset] [(.ref sa53)]))
                              refine own_go (fun t_ k => XS.astore X53.here hx rfl (hb hby at_346) rfl rfl (l' := #[.val (.int p1), .val (.int p2), .val (.int p3), .val (.long q4), .second, .val (.long q5), .second, .val (.int z2_S0), .val (.int z5_S0), .val (.int z8_S0), .val (.int z11_S0), .val (.int z14_S0), .val (.int vi16), .val (.int z18_S0), .val (.int vi20), .val (.int z22_S0), .val (.int vi24), .val (.int vi25), .val (.int z27_S0), .val (.int z30_S0), .val (.int vi32), .val (.int z34_S0), .val (.int vi36), .val (.int vi37), .val (.int z39_S0), .val (.int z42_S0), .val (.int vi44), .val (.int z46_S0), .val (.int vi48), .val (.int z50_S0), .val (.ref sa52), .val (.ref sa53), .unset, .unset, .unset, .unset, .unset, .unset, .unset, .unset, .unset, .unset, .unset, .unset, .unset]) rfl k) ?_
                              show WP p e below _ (T53.setTop (mkF m 348 #[.val (.int p1), .val (.int p2), .val (.int p3), .val (.long q4), .second, .val (.long q5), .second, .val (.int z2_S0), .val (.int z5_S0), .val (.int z8_S0), .val (.int z11_S0), .val (.int z14_S0), .val (.int vi16), .val (.int z18_S0), .val (.int vi20), .val (.int z22_S0), .val (.int vi24), .val (.int vi25), .val (.int z27_S0), .val (.int z30_S0), .val (.int vi32), .val (.int z34_S0), .val (.int vi36), .val (.int vi37), .val (.int z39_S0), .val (.int z42_S0), .val (.int vi44), .val (.int z46_S0), .val (.int vi48), .val (.int z50_S0), .val (.ref sa52), .val (.ref sa53), .unset, .unset, .unset, .unset, .unset, .unset, .unset, .unset, .unset, .unset, .unset, .unset, .unset] []))
                              refine own_go (fun t_ k => XS.iload X53.here hx rfl (hb hby at_348) rfl k) ?_
                              show WP p e below _ (T53.setTop (mkF m 350 #[.val (.int p1), .val (.int p2), .val (.int p3), .val (.long q4), .second, .val (.long q5), .second, .val (.int z2_S0), .val (.int z5_S0), .val (.int z8_S0), .val (.int z11_S0), .val (.int z14_S0), .val (.int vi16), .val (.int z18_S0), .val (.int vi20), .val (.int z22_S0), .val (.int vi24), .val (.int vi25), .val (.int z27_S0), .val (.int z30_S0), .val (.int vi32), .val (.int z34_S0), .val (.int vi36), .val (.int vi37), .val (.int z39_S0), .val (.int z42_S0), .val (.int vi44), .val (.int z46_S0), .val (.int vi48), .val (.int z50_S0), .val (.ref sa52), .val (.ref sa53), .unset, .unset, .unset, .unset, .unset, .unset, .unset, .unset, .unset, .unset, .unset, .unset, .unset] [(.int vi32)]))
                              refine own_go (fun t_ k => XS.iload X53.here hx rfl (hb hby at_350) rfl k) ?_
                              show WP p e below _ (T53.setTop (mkF m 352 #[.val (.int p1), .val (.int p2), .val (.int p3), .val (.long q4), .second, .val (.long q5), .second, .val (.int z2_S0), .val (.int z5_S0), .val (.int z8_S0), .val (.int z11_S0), .val (.int z14_S0), .val (.int vi16), .val (.int z18_S0), .val (.int vi20), .val (.int z22_S0), .val (.int vi24), .val (.int vi25), .val (.int z27_S0), .val (.int z30_S0), .val (.int vi32), .val (.int z34_S0), .val (.int vi36), .val (.int vi37), .val (.int z39_S0), .val (.int z42_S0), .val (.int vi44), .val (.int z46_S0), .val (.int vi48), .val (.int z50_S0), .val (.ref sa52), .val (.ref sa53), .unset, .unset, .unset, .unset, .unset, .unset, .unset, .unset, .unset, .unset, .unset, .unset, .unset] [(.int vi36), (.int vi32)]))
                              refine own_go (fun t_ k => XS.iload X53.here hx rfl (hb hby at_352) rfl k) ?_
                              show WP p e below _ (T53.setTop (mkF m 354 #[.val (.int p1), .val (.int p2), .val (.int p3), .val (.long q4), .second, .val (.long q5), .second, .val (.int z2_S0), .val (.int z5_S0), .val (.int z8_S0), .val (.int z11_S0), .val (.int z14_S0), .val (.int vi16), .val (.int z18_S0), .val (.int vi20), .val (.int z22_S0), .val (.int vi24), .val (.int vi25), .val (.int z27_S0), .val (.int z30_S0), .val (.int vi32), .val (.int z34_S0), .val (.int vi36), .val (.int vi37), .val (.int z39_S0), .val (.int z42_S0), .val (.int vi44), .val (.int z46_S0), .val (.int vi48), .val (.int z50_S0), .val (.ref sa52), .val (.ref sa53), .unset, .unset, .unset, .unset, .unset, .unset, .unset, .unset, .unset, .unset, .unset, .unset, .unset] [(.int vi37), (.int vi36), (.int vi32)]))
                              obtain ⟨_, T54, Lc54, X54, Sc54, hsz54, hQ54, hCr54, st54⟩ := own_unS X53 4 8 (Jvm.RoadKit.callSS X53 hx (y := (⟨"com/example/covenant_atlas/covenantatlas/model/OutlineEntryEqualsPinLaw", "str", "(III)Ljava/lang/String;"⟩ : MethodName)) hown (mvT hZ (hw _ (List.mem_of_getElem? (i := 0) rfl))) (mvT hZ (hw _ (List.mem_of_getElem? (i := 1) rfl))) (mvT hZ (hw _ (List.mem_of_getElem? (i := 2) rfl))) (mvT hZ (hw _ (List.mem_of_getElem? (i := 3) rfl))) (by decide) (backOfSH (s := s) (vm0 := T53.vm) (EL := EL0) (W := 0) (rmStr l Z a0 hw [] vi32 vi36 vi37 cs T53.heap n0 (Nat.le_trans Z0 K53.1) Sk53_0 hcs (own_B he36) (own_B he37) (own_T he32)) hZ (hw _ (List.mem_of_getElem? (i := 3) rfl)) (hw _ (List.mem_of_getElem? (i := 2) rfl)) (by decide) (by decide) hEL (hCr53.1)) (g := (mkF m 354 #[.val (.int p1), .val (.int p2), .val (.int p3), .val (.long q4), .second, .val (.long q5), .second, .val (.int z2_S0), .val (.int z5_S0), .val (.int z8_S0), .val (.int z11_S0), .val (.int z14_S0), .val (.int vi16), .val (.int z18_S0), .val (.int vi20), .val (.int z22_S0), .val (.int vi24), .val (.int vi25), .val (.int z27_S0), .val (.int z30_S0), .val (.int vi32), .val (.int z34_S0), .val (.int vi36), .val (.int vi37), .val (.int z39_S0), .val (.int z42_S0), .val (.int vi44), .val (.int z46_S0), .val (.int vi48), .val (.int z50_S0), .val (.ref sa52), .val (.ref sa53), .unset, .unset, .unset, .unset, .unset, .unset, .unset, .unset, .unset, .unset, .unset, .unset, .unset] [(.int vi37), (.int vi36), (.int vi32)])) rfl (by rw [hml]; rfl) (argsL := [(.int vi32), (.int vi36), (.int vi37)]) (rest := []) (lenOf pd_8 rfl) rfl (by show 2 * 0 + _ ≤ _; exact Nat.le_of_eq rfl) (hb hby at_354) (fun _ _ => ⟨rfl, er53, (by decide : 8 + 4 ≤ _), (by decide : 16 + 8 ≤ _)⟩))
                              dsimp only [Pt.U] at st54
                              have hZ : Z.Warmed39 (s.setVm T54.vm).vm := own_hZ hZ Sc54
                              have hown : (s.setVm T54.vm).vm.findClass "com/example/covenant_atlas/covenantatlas/model/OutlineEntryEqualsPinLaw" = some m.cls := own_hown hown Sc54
                              have Sn54 : s.Since T54.vm T54.heap.size := State.Since.trans Sn53 Sc54 (Nat.le_trans (by rw [er53]; exact (Nat.le_refl _)) hsz54)
                              have er54 : T54.heap = T54.heap := rfl
                              obtain ⟨sa54, sb54, sk54, sn54, sx54, rfl, N54q, K54c, sz54, E54c, Fc54c, Fv54c, V54c, nb54, SX54⟩ := hQ54
                              have N54 := Fr.app N53 N54q
                              replace X54 : Stand p l e room_1 (s.setVm T54.vm) m _ below meth c T54 _ 12 24 := X54
                              refine own_go (fun t_ k => st54.trans k) ?_
                              have Sk54_0 := own_sta_k Sk53_0 K54c (own_pl0)
                              have Sk54_1 := own_sta_k Sk53_1 K54c (own_pl0)
                              have Sk54_2 := own_sta_k Sk53_2 K54c (own_pl0)
                              have Sk54_3 := own_sta_k Sk53_3 K54c (own_pl0)
                              have Sk54_4 := own_sta_k Sk53_4 K54c (own_pl0)
                              have Sk54_5 := own_sta_k Sk53_5 K54c (own_pl0)
                              have g_sa54 : n0 ≤ sa54 := Nat.le_trans (Nat.le_trans Z0 K53.1) sz54
                              have szz_sa54 : h0.size ≤ sa54 := Nat.le_trans K53.1 sz54
                              have ne_kq0_sa54 : kq0 ≠ sa54 := Nat.ne_of_lt (Nat.lt_of_lt_of_le ((Ek0.keep K52c).keep K53c).lt sz54)
                              have ne_kq1_sa54 : kq1 ≠ sa54 := Nat.ne_of_lt (Nat.lt_of_lt_of_le ((Ek1.keep K52c).keep K53c).lt sz54)
                              have ne_kq2_sa54 : kq2 ≠ sa54 := Nat.ne_of_lt (Nat.lt_of_lt_of_le ((Ek2.keep K52c).keep K53c).lt sz54)
                              have ne_kq3_sa54 : kq3 ≠ sa54 := Nat.ne_of_lt (Nat.lt_of_lt_of_le ((Ek3.keep K52c).keep K53c).lt sz54)
                              have ne_kq4_sa54 : kq4 ≠ sa54 := Nat.ne_of_lt (Nat.lt_of_lt_of_le ((Ek4.keep K52c).keep K53c).lt sz54)
                              have ne_sa52_sa54 : sa52 ≠ sa54 := Nat.ne_of_lt (Nat.lt_of_lt_of_le (E52c.keep K53c).lt sz54)
                              have ne_sb52_sa54 : sb52 ≠ sa54 := Nat.ne_of_lt (Nat.lt_of_lt_of_le (V52c.keep K53c nin0).lt sz54)
                              have ne_sa53_sa54 : sa53 ≠ sa54 := Nat.ne_of_lt (Nat.lt_of_lt_of_le E53c.lt sz54)
                              have ne_sb53_sa54 : sb53 ≠ sa54 := Nat.ne_of_lt (Nat.lt_of_lt_of_le V53c.lt sz54)
                              have K54 : Keep h0 T54.heap [] := K53.trans K54c all0
                              show WP p e below _ (T54.setTop (mkF m 357 #[.val (.int p1), .val (.int p2), .val (.int p3), .val (.long q4), .second, .val (.long q5), .second, .val (.int z2_S0), .val (.int z5_S0), .val (.int z8_S0), .val (.int z11_S0), .val (.int z14_S0), .val (.int vi16), .val (.int z18_S0), .val (.int vi20), .val (.int z22_S0), .val (.int vi24), .val (.int vi25), .val (.int z27_S0), .val (.int z30_S0), .val (.int vi32), .val (.int z34_S0), .val (.int vi36), .val (.int vi37), .val (.int z39_S0), .val (.int z42_S0), .val (.int vi44), .val (.int z46_S0), .val (.int vi48), .val (.int z50_S0), .val (.ref sa52), .val (.ref sa53), .unset, .unset, .unset, .unset, .unset, .unset, .unset, .unset, .unset, .unset, .unset, .unset, .unset] [(.ref sa54)]))
                              refine own_go (fun t_ k => XS.astore X54.here hx rfl (hb hby at_357) rfl rfl (l' := #[.val (.int p1), .val (.int p2), .val (.int p3), .val (.long q4), .second, .val (.long q5), .second, .val (.int z2_S0), .val (.int z5_S0), .val (.int z8_S0), .val (.int z11_S0), .val (.int z14_S0), .val (.int vi16), .val (.int z18_S0), .val (.int vi20), .val (.int z22_S0), .val (.int vi24), .val (.int vi25), .val (.int z27_S0), .val (.int z30_S0), .val (.int vi32), .val (.int z34_S0), .val (.int vi36), .val (.int vi37), .val (.int z39_S0), .val (.int z42_S0), .val (.int vi44), .val (.int z46_S0), .val (.int vi48), .val (.int z50_S0), .val (.ref sa52), .val (.ref sa53), .val (.ref sa54), .unset, .unset, .unset, .unset, .unset, .unset, .unset, .unset, .unset, .unset, .unset, .unset]) rfl k) ?_
                              show WP p e below _ (T54.setTop (mkF m 359 #[.val (.int p1), .val (.int p2), .val (.int p3), .val (.long q4), .second, .val (.long q5), .second, .val (.int z2_S0), .val (.int z5_S0), .val (.int z8_S0), .val (.int z11_S0), .val (.int z14_S0), .val (.int vi16), .val (.int z18_S0), .val (.int vi20), .val (.int z22_S0), .val (.int vi24), .val (.int vi25), .val (.int z27_S0), .val (.int z30_S0), .val (.int vi32), .val (.int z34_S0), .val (.int vi36), .val (.int vi37), .val (.int z39_S0), .val (.int z42_S0), .val (.int vi44), .val (.int z46_S0), .val (.int vi48), .val (.int z50_S0), .val (.ref sa52), .val (.ref sa53), .val (.ref sa54), .unset, .unset, .unset, .unset, .unset, .unset, .unset, .unset, .unset, .unset, .unset, .unset] []))
                              refine own_go (fun t_ k => XS.iload X54.here hx rfl (hb hby at_359) rfl k) ?_
                              show WP p e below _ (T54.setTop (mkF m 361 #[.val (.int p1), .val (.int p2), .val (.int p3), .val (.long q4), .second, .val (.long q5), .second, .val (.int z2_S0), .val (.int z5_S0), .val (.int z8_S0), .val (.int z11_S0), .val (.int z14_S0), .val (.int vi16), .val (.int z18_S0), .val (.int vi20), .val (.int z22_S0), .val (.int vi24), .val (.int vi25), .val (.int z27_S0), .val (.int z30_S0), .val (.int vi32), .val (.int z34_S0), .val (.int vi36), .val (.int vi37), .val (.int z39_S0), .val (.int z42_S0), .val (.int vi44), .val (.int z46_S0), .val (.int vi48), .val (.int z50_S0), .val (.ref sa52), .val (.ref sa53), .val (.ref sa54), .unset, .unset, .unset, .unset, .unset, .unset, .unset, .unset, .unset, .unset, .unset, .unset] [(.int z34_S0)]))
                              refine own_go (fun t_ k => XS.iload X54.here hx rfl (hb hby at_361) rfl k) ?_
                              show WP p e below _ (T54.setTop (mkF m 363 #[.val (.int p1), .val (.int p2), .val (.int p3), .val (.long q4), .second, .val (.long q5), .second, .val (.int z2_S0), .val (.int z5_S0), .val (.int z8_S0), .val (.int z11_S0), .val (.int z14_S0), .val (.int vi16), .val (.int z18_S0), .val (.int vi20), .val (.int z22_S0), .val (.int vi24), .val (.int vi25), .val (.int z27_S0), .val (.int z30_S0), .val (.int vi32), .val (.int z34_S0), .val (.int vi36), .val (.int vi37), .val (.int z39_S0), .val (.int z42_S0), .val (.int vi44), .val (.int z46_S0), .val (.int vi48), .val (.int z50_S0), .val (.ref sa52), .val (.ref sa53), .val (.ref sa54), .unset, .unset, .unset, .unset, .unset, .unset, .unset, .unset, .unset, .unset, .unset, .unset] [(.int z39_S0), (.int z34_S0)]))
                              refine own_go (fun t_ k => XS.iload X54.here hx rfl (hb hby at_363) rfl k) ?_
                              show WP p e below _ (T54.setTop (mkF m 365 #[.val (.int p1), .val (.int p2), .val (.int p3), .val (.long q4), .second, .val (.long q5), .second, .val (.int z2_S0), .val (.int z5_S0), .val (.int z8_S0), .val (.int z11_S0), .val (.int z14_S0), .val (.int vi16), .val (.int z18_S0), .val (.int vi20), .val (.int z22_S0), .val (.int vi24), .val (.int vi25), .val (.int z27_S0), .val (.int z30_S0), .val (.int vi32), .val (.int z34_S0), .val (.int vi36), .val (.int vi37), .val (.int z39_S0), .val (.int z42_S0), .val (.int vi44), .val (.int z46_S0), .val (.int vi48), .val (.int z50_S0), .val (.ref sa52), .val (.ref sa53), .val (.ref sa54), .unset, .unset, .unset, .unset, .unset, .unset, .unset, .unset, .unset, .unset, .unset, .unset] [(.int z42_S0), (.int z39_S0), (.int z34_S0)]))
                              obtain ⟨_, T55, Lc55, X55, Sc55, hsz55, hQ55, hCr55, st55⟩ := own_unS X54 4 8 (Jvm.RoadKit.callSS X54 hx (y := (⟨"com/example/covenant_atlas/covenantatlas/model/OutlineEntryEqualsPinLaw", "str", "(III)Ljava/lang/String;"⟩ : MethodName)) hown (mvT hZ (hw _ (List.mem_of_getElem? (i := 0) rfl))) (mvT hZ (hw _ (List.mem_of_getElem? (i := 1) rfl))) (mvT hZ (hw _ (List.mem_of_getElem? (i := 2) rfl))) (mvT hZ (hw _ (List.mem_of_getElem? (i := 3) rfl))) (by decide) (backOfSH (s := s) (vm0 := T54.vm) (EL := EL0) (W := 0) (rmStr l Z a0 hw [] z34_S0 z39_S0 z42_S0 cs T54.heap n0 (Nat.le_trans Z0 K54.1) Sk54_0 hcs (own_iteB hz39_S0 (own_B rfl) (own_B he36)) (own_iteB hz42_S0 (own_B rfl) (own_B he37)) (own_iteT hz34_S0 (own_T rfl) (own_T he32))) hZ (hw _ (List.mem_of_getElem? (i := 3) rfl)) (hw _ (List.mem_of_getElem? (i := 2) rfl)) (by decide) (by decide) hEL (hCr54.1)) (g := (mkF m 365 #[.val (.int p1), .val (.int p2), .val (.int p3), .val (.long q4), .second, .val (.long q5), .second, .val (.int z2_S0), .val (.int z5_S0), .val (.int z8_S0), .val (.int z11_S0), .val (.int z14_S0), .val (.int vi16), .val (.int z18_S0), .val (.int vi20), .val (.int z22_S0), .val (.int vi24), .val (.int vi25), .val (.int z27_S0), .val (.int z30_S0), .val (.int vi32), .val (.int z34_S0), .val (.int vi36), .val (.int vi37), .val (.int z39_S0), .val (.int z42_S0), .val (.int vi44), .val (.int z46_S0), .val (.int vi48), .val (.int z50_S0), .val (.ref sa52), .val (.ref sa53), .val (.ref sa54), .unset, .unset, .unset, .unset, .unset, .unset, .unset, .unset, .unset, .unset, .unset, .unset] [(.int z42_S0), (.int z39_S0), (.int z34_S0)])) rfl (by rw [hml]; rfl) (argsL := [(.int z34_S0), (.int z39_S0), (.int z42_S0)]) (rest := []) (lenOf pd_8 rfl) rfl (by show 2 * 0 + _ ≤ _; exact Nat.le_of_eq rfl) (hb hby at_365) (fun _ _ => ⟨rfl, er54, (by decide : 12 + 4 ≤ _), (by decide : 24 + 8 ≤ _)⟩))
                              dsimp only [Pt.U] at st55
                              have hZ : Z.Warmed39 (s.setVm T55.vm).vm := own_hZ hZ Sc55
                              have hown : (s.setVm T55.vm).vm.findClass "com/example/covenant_atlas/covenantatlas/model/OutlineEntryEqualsPinLaw" = some m.cls := own_hown hown Sc55
                              have Sn55 : s.Since T55.vm T55.heap.size := State.Since.trans Sn54 Sc55 (Nat.le_trans (by rw [er54]; exact (Nat.le_refl _)) hsz55)
                              have er55 : T55.heap = T55.heap := rfl
                              obtain ⟨sa55, sb55, sk55, sn55, sx55, rfl, N55q, K55c, sz55, E55c, Fc55c, Fv55c, V55c, nb55, SX55⟩ := hQ55
                              have N55 := Fr.app N54 N55q
                              replace X55 : Stand p l e room_1 (s.setVm T55.vm) m _ below meth c T55 _ 16 32 := X55
                              refine own_go (fun t_ k => st55.trans k) ?_
                              have Sk55_0 := own_sta_k Sk54_0 K55c (own_pl0)
                              have Sk55_1 := own_sta_k Sk54_1 K55c (own_pl0)
                              have Sk55_2 := own_sta_k Sk54_2 K55c (own_pl0)
                              have Sk55_3 := own_sta_k Sk54_3 K55c (own_pl0)
                              have Sk55_4 := own_sta_k Sk54_4 K55c (own_pl0)
                              have Sk55_5 := own_sta_k Sk54_5 K55c (own_pl0)
                              have g_sa55 : n0 ≤ sa55 := Nat.le_trans (Nat.le_trans Z0 K54.1) sz55
                              have szz_sa55 : h0.size ≤ sa55 := Nat.le_trans K54.1 sz55
                              have ne_kq0_sa55 : kq0 ≠ sa55 := Nat.ne_of_lt (Nat.lt_of_lt_of_le (((Ek0.keep K52c).keep K53c).keep K54c).lt sz55)
                              have ne_kq1_sa55 : kq1 ≠ sa55 := Nat.ne_of_lt (Nat.lt_of_lt_of_le (((Ek1.keep K52c).keep K53c).keep K54c).lt sz55)
                              have ne_kq2_sa55 : kq2 ≠ sa55 := Nat.ne_of_lt (Nat.lt_of_lt_of_le (((Ek2.keep K52c).keep K53c).keep K54c).lt sz55)
                              have ne_kq3_sa55 : kq3 ≠ sa55 := Nat.ne_of_lt (Nat.lt_of_lt_of_le (((Ek3.keep K52c).keep K53c).keep K54c).lt sz55)
                              have ne_kq4_sa55 : kq4 ≠ sa55 := Nat.ne_of_lt (Nat.lt_of_lt_of_le (((Ek4.keep K52c).keep K53c).keep K54c).lt sz55)
                              have ne_sa52_sa55 : sa52 ≠ sa55 := Nat.ne_of_lt (Nat.lt_of_lt_of_le ((E52c.keep K53c).keep K54c).lt sz55)
                              have ne_sb52_sa55 : sb52 ≠ sa55 := Nat.ne_of_lt (Nat.lt_of_lt_of_le ((V52c.keep K53c nin0).keep K54c nin0).lt sz55)
                              have ne_sa53_sa55 : sa53 ≠ sa55 := Nat.ne_of_lt (Nat.lt_of_lt_of_le (E53c.keep K54c).lt sz55)
                              have ne_sb53_sa55 : sb53 ≠ sa55 := Nat.ne_of_lt (Nat.lt_of_lt_of_le (V53c.keep K54c nin0).lt sz55)
                              have ne_sa54_sa55 : sa54 ≠ sa55 := Nat.ne_of_lt (Nat.lt_of_lt_of_le E54c.lt sz55)
                              have ne_sb54_sa55 : sb54 ≠ sa55 := Nat.ne_of_lt (Nat.lt_of_lt_of_le V54c.lt sz55)
                              have K55 : Keep h0 T55.heap [] := K54.trans K55c all0
                              show WP p e below _ (T55.setTop (mkF m 368 #[.val (.int p1), .val (.int p2), .val (.int p3), .val (.long q4), .second, .val (.long q5), .second, .val (.int z2_S0), .val (.int z5_S0), .val (.int z8_S0), .val (.int z11_S0), .val (.int z14_S0), .val (.int vi16), .val (.int z18_S0), .val (.int vi20), .val (.int z22_S0), .val (.int vi24), .val (.int vi25), .val (.int z27_S0), .val (.int z30_S0), .val (.int vi32), .val (.int z34_S0), .val (.int vi36), .val (.int vi37), .val (.int z39_S0), .val (.int z42_S0), .val (.int vi44), .val (.int z46_S0), .val (.int vi48), .val (.int z50_S0), .val (.ref sa52), .val (.ref sa53), .val (.ref sa54), .unset, .unset, .unset, .unset, .unset, .unset, .unset, .unset, .unset, .unset, .unset, .unset] [(.ref sa55)]))
                              refine own_go (fun t_ k => XS.astore X55.here hx rfl (hb hby at_368) rfl rfl (l' := #[.val (.int p1), .val (.int p2), .val (.int p3), .val (.long q4), .second, .val (.long q5), .second, .val (.int z2_S0), .val (.int z5_S0), .val (.int z8_S0), .val (.int z11_S0), .val (.int z14_S0), .val (.int vi16), .val (.int z18_S0), .val (.int vi20), .val (.int z22_S0), .val (.int vi24), .val (.int vi25), .val (.int z27_S0), .val (.int z30_S0), .val (.int vi32), .val (.int z34_S0), .val (.int vi36), .val (.int vi37), .val (.int z39_S0), .val (.int z42_S0), .val (.int vi44), .val (.int z46_S0), .val (.int vi48), .val (.int z50_S0), .val (.ref sa52), .val (.ref sa53), .val (.ref sa54), .val (.ref sa55), .unset, .unset, .unset, .unset, .unset, .unset, .unset, .unset, .unset, .unset, .unset]) rfl k) ?_
                              show WP p e below _ (T55.setTop (mkF m 370 #[.val (.int p1), .val (.int p2), .val (.int p3), .val (.long q4), .second, .val (.long q5), .second, .val (.int z2_S0), .val (.int z5_S0), .val (.int z8_S0), .val (.int z11_S0), .val (.int z14_S0), .val (.int vi16), .val (.int z18_S0), .val (.int vi20), .val (.int z22_S0), .val (.int vi24), .val (.int vi25), .val (.int z27_S0), .val (.int z30_S0), .val (.int vi32), .val (.int z34_S0), .val (.int vi36), .val (.int vi37), .val (.int z39_S0), .val (.int z42_S0), .val (.int vi44), .val (.int z46_S0), .val (.int vi48), .val (.int z50_S0), .val (.ref sa52), .val (.ref sa53), .val (.ref sa54), .val (.ref sa55), .unset, .unset, .unset, .unset, .unset, .unset, .unset, .unset, .unset, .unset, .unset] []))
                              obtain ⟨T56, h56, X56, e56, E56, A56, D56, -, st56⟩ := newO X55 hx hZ hown (hw _ (List.mem_of_getElem? (i := 26) rfl)) (hw _ (List.mem_of_getElem? (i := 27) rfl)) (hw _ (List.mem_of_getElem? (i := 28) rfl)) er55 (g := (mkF m 370 #[.val (.int p1), .val (.int p2), .val (.int p3), .val (.long q4), .second, .val (.long q5), .second, .val (.int z2_S0), .val (.int z5_S0), .val (.int z8_S0), .val (.int z11_S0), .val (.int z14_S0), .val (.int vi16), .val (.int z18_S0), .val (.int vi20), .val (.int z22_S0), .val (.int vi24), .val (.int vi25), .val (.int z27_S0), .val (.int z30_S0), .val (.int vi32), .val (.int z34_S0), .val (.int vi36), .val (.int vi37), .val (.int z39_S0), .val (.int z42_S0), .val (.int vi44), .val (.int z46_S0), .val (.int vi48), .val (.int z50_S0), .val (.ref sa52), .val (.ref sa53), .val (.ref sa54), .val (.ref sa55), .unset, .unset, .unset, .unset, .unset, .unset, .unset, .unset, .unset, .unset, .unset] [])) rfl (hb hby at_370) (by decide) (by decide)
                              obtain ⟨b56, g56⟩ : ∃ z, z = Array.size T55.heap := ⟨_, rfl⟩
                              rw [← g56] at A56 D56 st56
                              refine own_go st56 ?_
                              have g_b56 : n0 ≤ b56 := Nat.le_trans (Nat.le_trans Z0 K55.1) (Nat.le_of_eq g56.symm)
                              have sz_b56 : h0.size ≤ b56 := Nat.le_trans K55.1 (Nat.le_of_eq g56.symm)
                              have ne_kq0_b56 : kq0 ≠ b56 := Nat.ne_of_lt (Nat.lt_of_lt_of_le ((((Ek0.keep K52c).keep K53c).keep K54c).keep K55c).lt (Nat.le_of_eq g56.symm))
                              have ne_kq1_b56 : kq1 ≠ b56 := Nat.ne_of_lt (Nat.lt_of_lt_of_le ((((Ek1.keep K52c).keep K53c).keep K54c).keep K55c).lt (Nat.le_of_eq g56.symm))
                              have ne_kq2_b56 : kq2 ≠ b56 := Nat.ne_of_lt (Nat.lt_of_lt_of_le ((((Ek2.keep K52c).keep K53c).keep K54c).keep K55c).lt (Nat.le_of_eq g56.symm))
                              have ne_kq3_b56 : kq3 ≠ b56 := Nat.ne_of_lt (Nat.lt_of_lt_of_le ((((Ek3.keep K52c).keep K53c).keep K54c).keep K55c).lt (Nat.le_of_eq g56.symm))
                              have ne_kq4_b56 : kq4 ≠ b56 := Nat.ne_of_lt (Nat.lt_of_lt_of_le ((((Ek4.keep K52c).keep K53c).keep K54c).keep K55c).lt (Nat.le_of_eq g56.symm))
                              have ne_sa52_b56 : sa52 ≠ b56 := Nat.ne_of_lt (Nat.lt_of_lt_of_le (((E52c.keep K53c).keep K54c).keep K55c).lt (Nat.le_of_eq g56.symm))
                              have ne_sb52_b56 : sb52 ≠ b56 := Nat.ne_of_lt (Nat.lt_of_lt_of_le (((V52c.keep K53c nin0).keep K54c nin0).keep K55c nin0).lt (Nat.le_of_eq g56.symm))
                              have ne_sa53_b56 : sa53 ≠ b56 := Nat.ne_of_lt (Nat.lt_of_lt_of_le ((E53c.keep K54c).keep K55c).lt (Nat.le_of_eq g56.symm))
                              have ne_sb53_b56 : sb53 ≠ b56 := Nat.ne_of_lt (Nat.lt_of_lt_of_le ((V53c.keep K54c nin0).keep K55c nin0).lt (Nat.le_of_eq g56.symm))
                              have ne_sa54_b56 : sa54 ≠ b56 := Nat.ne_of_lt (Nat.lt_of_lt_of_le (E54c.keep K55c).lt (Nat.le_of_eq g56.symm))
                              have ne_sb54_b56 : sb54 ≠ b56 := Nat.ne_of_lt (Nat.lt_of_lt_of_le (V54c.keep K55c nin0).lt (Nat.le_of_eq g56.symm))
                              have ne_sa55_b56 : sa55 ≠ b56 := Nat.ne_of_lt (Nat.lt_of_lt_of_le E55c.lt (Nat.le_of_eq g56.symm))
                              have ne_sb55_b56 : sb55 ≠ b56 := Nat.ne_of_lt (Nat.lt_of_lt_of_le V55c.lt (Nat.le_of_eq g56.symm))
                              have K56 : Keep h0 h56 [] := K55.ext E56
                              have F56_kind : Fld Z h56 b56 "com/example/covenant_atlas/covenantatlas/model/OutlineEntry" "kind" "Lcom/example/covenant_atlas/covenantatlas/model/PartKind;" .null := D56 (Or.inr (hw _ (List.mem_of_getElem? (i := 46) rfl))) (ty := (.object "com/example/covenant_atlas/covenantatlas/model/PartKind")) (by decide)
                              have F56_number : Fld Z h56 b56 "com/example/covenant_atlas/covenantatlas/model/OutlineEntry" "number" "Ljava/lang/String;" .null := D56 (Or.inr (hw _ (List.mem_of_getElem? (i := 49) rfl))) (ty := (.object "java/lang/String")) (by decide)
                              have F56_heading : Fld Z h56 b56 "com/example/covenant_atlas/covenantatlas/model/OutlineEntry" "heading" "Ljava/lang/String;" .null := D56 (Or.inr (hw _ (List.mem_of_getElem? (i := 51) rfl))) (ty := (.object "java/lang/String")) (by decide)
                              have F56_line : Fld Z h56 b56 "com/example/covenant_atlas/covenantatlas/model/OutlineEntry" "line" "I" (.int (0 : Int32)) := D56 (Or.inr (hw _ (List.mem_of_getElem? (i := 53) rfl))) (ty := .int) (by decide)
                              have F56_column : Fld Z h56 b56 "com/example/covenant_atlas/covenantatlas/model/OutlineEntry" "column" "I" (.int (0 : Int32)) := D56 (Or.inr (hw _ (List.mem_of_getElem? (i := 55) rfl))) (ty := .int) (by decide)
                              show WP p e below _ (T56.setTop (mkF m 373 #[.val (.int p1), .val (.int p2), .val (.int p3), .val (.long q4), .second, .val (.long q5), .second, .val (.int z2_S0), .val (.int z5_S0), .val (.int z8_S0), .val (.int z11_S0), .val (.int z14_S0), .val (.int vi16), .val (.int z18_S0), .val (.int vi20), .val (.int z22_S0), .val (.int vi24), .val (.int vi25), .val (.int z27_S0), .val (.int z30_S0), .val (.int vi32), .val (.int z34_S0), .val (.int vi36), .val (.int vi37), .val (.int z39_S0), .val (.int z42_S0), .val (.int vi44), .val (.int z46_S0), .val (.int vi48), .val (.int z50_S0), .val (.ref sa52), .val (.ref sa53), .val (.ref sa54), .val (.ref sa55), .unset, .unset, .unset, .unset, .unset, .unset, .unset, .unset, .unset, .unset, .unset] [(.ref b56)]))
                              refine own_go (fun t_ k => XS.dup X56.here hx rfl (hb hby at_373) rfl rfl k) ?_
                              show WP p e below _ (T56.setTop (mkF m 374 #[.val (.int p1), .val (.int p2), .val (.int p3), .val (.long q4), .second, .val (.long q5), .second, .val (.int z2_S0), .val (.int z5_S0), .val (.int z8_S0), .val (.int z11_S0), .val (.int z14_S0), .val (.int vi16), .val (.int z18_S0), .val (.int vi20), .val (.int z22_S0), .val (.int vi24), .val (.int vi25), .val (.int z27_S0), .val (.int z30_S0), .val (.int vi32), .val (.int z34_S0), .val (.int vi36), .val (.int vi37), .val (.int z39_S0), .val (.int z42_S0), .val (.int vi44), .val (.int z46_S0), .val (.int vi48), .val (.int z50_S0), .val (.ref sa52), .val (.ref sa53), .val (.ref sa54), .val (.ref sa55), .unset, .unset, .unset, .unset, .unset, .unset, .unset, .unset, .unset, .unset, .unset] [(.ref b56), (.ref b56)]))
                              refine own_go (fun t_ k => XS.iload X56.here hx rfl (hb hby at_374) rfl k) ?_
                              show WP p e below _ (T56.setTop (mkF m 376 #[.val (.int p1), .val (.int p2), .val (.int p3), .val (.long q4), .second, .val (.long q5), .second, .val (.int z2_S0), .val (.int z5_S0), .val (.int z8_S0), .val (.int z11_S0), .val (.int z14_S0), .val (.int vi16), .val (.int z18_S0), .val (.int vi20), .val (.int z22_S0), .val (.int vi24), .val (.int vi25), .val (.int z27_S0), .val (.int z30_S0), .val (.int vi32), .val (.int z34_S0), .val (.int vi36), .val (.int vi37), .val (.int z39_S0), .val (.int z42_S0), .val (.int vi44), .val (.int z46_S0), .val (.int vi48), .val (.int z50_S0), .val (.ref sa52), .val (.ref sa53), .val (.ref sa54), .val (.ref sa55), .unset, .unset, .unset, .unset, .unset, .unset, .unset, .unset, .unset, .unset, .unset] [(.int vi16), (.ref b56), (.ref b56)]))
                              obtain ⟨_, T57, Lc57, X57, hQ57, st57⟩ := own_un X56 0 0 (Jvm.LawKit.callS X56 hx (y := (⟨"com/example/covenant_atlas/covenantatlas/model/OutlineEntryEqualsPinLaw", "kindOf", "(I)Lcom/example/covenant_atlas/covenantatlas/model/PartKind;"⟩ : MethodName)) hown (mvT hZ (hw _ (List.mem_of_getElem? (i := 29) rfl))) (mvT hZ (hw _ (List.mem_of_getElem? (i := 30) rfl))) (mvT hZ (hw _ (List.mem_of_getElem? (i := 2) rfl))) (mvT hZ (hw _ (List.mem_of_getElem? (i := 31) rfl))) (by decide) (backOf (W := 2) (rm5 l Z a0 hw [] vi16 kq0 kq1 kq2 kq3 kq4 h56 n0 (Sk55_1.ext E56) (Sk55_2.ext E56) (Sk55_3.ext E56) (Sk55_4.ext E56) (Sk55_5.ext E56)) hZ (hw _ (List.mem_of_getElem? (i := 31) rfl)) (hw _ (List.mem_of_getElem? (i := 2) rfl)) (by decide) (by decide)) (g := (mkF m 376 #[.val (.int p1), .val (.int p2), .val (.int p3), .val (.long q4), .second, .val (.long q5), .second, .val (.int z2_S0), .val (.int z5_S0), .val (.int z8_S0), .val (.int z11_S0), .val (.int z14_S0), .val (.int vi16), .val (.int z18_S0), .val (.int vi20), .val (.int z22_S0), .val (.int vi24), .val (.int vi25), .val (.int z27_S0), .val (.int z30_S0), .val (.int vi32), .val (.int z34_S0), .val (.int vi36), .val (.int vi37), .val (.int z39_S0), .val (.int z42_S0), .val (.int vi44), .val (.int z46_S0), .val (.int vi48), .val (.int z50_S0), .val (.ref sa52), .val (.ref sa53), .val (.ref sa54), .val (.ref sa55), .unset, .unset, .unset, .unset, .unset, .unset, .unset, .unset, .unset, .unset, .unset] [(.int vi16), (.ref b56), (.ref b56)])) rfl (by rw [hml]; rfl) (argsL := [(.int vi16)]) (rest := [(.ref b56), (.ref b56)]) (lenOf pd_9 rfl) rfl (by show 2 * 0 + _ ≤ _; exact Nat.le_of_eq rfl) (hb hby at_376) (fun _ _ => ⟨rfl, e56, (by decide : 17 + 0 ≤ _), (by decide : 37 + 0 ≤ _)⟩))
                              dsimp only [Pt.U] at st57
                              have er57 : T57.heap = T57.heap := rfl
                              obtain ⟨rfl, N57q, e57⟩ := hQ57
                              have N57 := Fr.app N55 N57q
                              replace X57 : Stand p l e room_1 (s.setVm T55.vm) m _ below meth c T57 _ 17 37 := X57
                              refine own_go st57 ?_
                              show WP p e below _ (T57.setTop (mkF m 379 #[.val (.int p1), .val (.int p2), .val (.int p3), .val (.long q4), .second, .val (.long q5), .second, .val (.int z2_S0), .val (.int z5_S0), .val (.int z8_S0), .val (.int z11_S0), .val (.int z14_S0), .val (.int vi16), .val (.int z18_S0), .val (.int vi20), .val (.int z22_S0), .val (.int vi24), .val (.int vi25), .val (.int z27_S0), .val (.int z30_S0), .val (.int vi32), .val (.int z34_S0), .val (.int vi36), .val (.int vi37), .val (.int z39_S0), .val (.int z42_S0), .val (.int vi44), .val (.int z46_S0), .val (.int vi48), .val (.int z50_S0), .val (.ref sa52), .val (.ref sa53), .val (.ref sa54), .val (.ref sa55), .unset, .unset, .unset, .unset, .unset, .unset, .unset, .unset, .unset, .unset, .unset] [(.ref (kf vi16 kq0 kq1 kq2 kq3 kq4)), (.ref b56), (.ref b56)]))
                              generalize he58 : (kf vi16 kq0 kq1 kq2 kq3 kq4) = vo58
                              have Ek59 := own_kfE he58 (((((Ek0.keep K52c).keep K53c).keep K54c).keep K55c).ext E56) (((((Ek1.keep K52c).keep K53c).keep K54c).keep K55c).ext E56) (((((Ek2.keep K52c).keep K53c).keep K54c).keep K55c).ext E56) (((((Ek3.keep K52c).keep K53c).keep K54c).keep K55c).ext E56) (((((Ek4.keep K52c).keep K53c).keep K54c).keep K55c).ext E56)
                              have nk59 : vo58 ≠ b56 := own_kfN he58 ne_kq0_b56 ne_kq1_b56 ne_kq2_b56 ne_kq3_b56 ne_kq4_b56
                              show WP p e below _ (T57.setTop (mkF m 379 #[.val (.int p1), .val (.int p2), .val (.int p3), .val (.long q4), .second, .val (.long q5), .second, .val (.int z2_S0), .val (.int z5_S0), .val (.int z8_S0), .val (.int z11_S0), .val (.int z14_S0), .val (.int vi16), .val (.int z18_S0), .val (.int vi20), .val (.int z22_S0), .val (.int vi24), .val (.int vi25), .val (.int z27_S0), .val (.int z30_S0), .val (.int vi32), .val (.int z34_S0), .val (.int vi36), .val (.int vi37), .val (.int z39_S0), .val (.int z42_S0), .val (.int vi44), .val (.int z46_S0), .val (.int vi48), .val (.int z50_S0), .val (.ref sa52), .val (.ref sa53), .val (.ref sa54), .val (.ref sa55), .unset, .unset, .unset, .unset, .unset, .unset, .unset, .unset, .unset, .unset, .unset] [(.ref vo58), (.ref b56), (.ref b56)]))
                              refine own_go (fun t_ k => XS.aload X57.here hx rfl (hb hby at_379) rfl rfl k) ?_
                              show WP p e below _ (T57.setTop (mkF m 381 #[.val (.int p1), .val (.int p2), .val (.int p3), .val (.long q4), .second, .val (.long q5), .second, .val (.int z2_S0), .val (.int z5_S0), .val (.int z8_S0), .val (.int z11_S0), .val (.int z14_S0), .val (.int vi16), .val (.int z18_S0), .val (.int vi20), .val (.int z22_S0), .val (.int vi24), .val (.int vi25), .val (.int z27_S0), .val (.int z30_S0), .val (.int vi32), .val (.int z34_S0), .val (.int vi36), .val (.int vi37), .val (.int z39_S0), .val (.int z42_S0), .val (.int vi44), .val (.int z46_S0), .val (.int vi48), .val (.int z50_S0), .val (.ref sa52), .val (.ref sa53), .val (.ref sa54), .val (.ref sa55), .unset, .unset, .unset, .unset, .unset, .unset, .unset, .unset, .unset, .unset, .unset] [(.ref sa52), (.ref vo58), (.ref b56), (.ref b56)]))
                              refine own_go (fun t_ k => XS.aload X57.here hx rfl (hb hby at_381) rfl rfl k) ?_
                              show WP p e below _ (T57.setTop (mkF m 383 #[.val (.int p1), .val (.int p2), .val (.int p3), .val (.long q4), .second, .val (.long q5), .second, .val (.int z2_S0), .val (.int z5_S0), .val (.int z8_S0), .val (.int z11_S0), .val (.int z14_S0), .val (.int vi16), .val (.int z18_S0), .val (.int vi20), .val (.int z22_S0), .val (.int vi24), .val (.int vi25), .val (.int z27_S0), .val (.int z30_S0), .val (.int vi32), .val (.int z34_S0), .val (.int vi36), .val (.int vi37), .val (.int z39_S0), .val (.int z42_S0), .val (.int vi44), .val (.int z46_S0), .val (.int vi48), .val (.int z50_S0), .val (.ref sa52), .val (.ref sa53), .val (.ref sa54), .val (.ref sa55), .unset, .unset, .unset, .unset, .unset, .unset, .unset, .unset, .unset, .unset, .unset] [(.ref sa54), (.ref sa52), (.ref vo58), (.ref b56), (.ref b56)]))
                              refine own_go (fun t_ k => XS.iload X57.here hx rfl (hb hby at_383) rfl k) ?_
                              show WP p e below _ (T57.setTop (mkF m 385 #[.val (.int p1), .val (.int p2), .val (.int p3), .val (.long q4), .second, .val (.long q5), .second, .val (.int z2_S0), .val (.int z5_S0), .val (.int z8_S0), .val (.int z11_S0), .val (.int z14_S0), .val (.int vi16), .val (.int z18_S0), .val (.int vi20), .val (.int z22_S0), .val (.int vi24), .val (.int vi25), .val (.int z27_S0), .val (.int z30_S0), .val (.int vi32), .val (.int z34_S0), .val (.int vi36), .val (.int vi37), .val (.int z39_S0), .val (.int z42_S0), .val (.int vi44), .val (.int z46_S0), .val (.int vi48), .val (.int z50_S0), .val (.ref sa52), .val (.ref sa53), .val (.ref sa54), .val (.ref sa55), .unset, .unset, .unset, .unset, .unset, .unset, .unset, .unset, .unset, .unset, .unset] [(.int vi44), (.ref sa54), (.ref sa52), (.ref vo58), (.ref b56), (.ref b56)]))
                              refine own_go (fun t_ k => XS.iload X57.here hx rfl (hb hby at_385) rfl k) ?_
                              show WP p e below _ (T57.setTop (mkF m 387 #[.val (.int p1), .val (.int p2), .val (.int p3), .val (.long q4), .second, .val (.long q5), .second, .val (.int z2_S0), .val (.int z5_S0), .val (.int z8_S0), .val (.int z11_S0), .val (.int z14_S0), .val (.int vi16), .val (.int z18_S0), .val (.int vi20), .val (.int z22_S0), .val (.int vi24), .val (.int vi25), .val (.int z27_S0), .val (.int z30_S0), .val (.int vi32), .val (.int z34_S0), .val (.int vi36), .val (.int vi37), .val (.int z39_S0), .val (.int z42_S0), .val (.int vi44), .val (.int z46_S0), .val (.int vi48), .val (.int z50_S0), .val (.ref sa52), .val (.ref sa53), .val (.ref sa54), .val (.ref sa55), .unset, .unset, .unset, .unset, .unset, .unset, .unset, .unset, .unset, .unset, .unset] [(.int vi48), (.int vi44), (.ref sa54), (.ref sa52), (.ref vo58), (.ref b56), (.ref b56)]))
                              obtain ⟨_, T60, Lc60, X60, hQ60, st60⟩ := own_un X57 0 0 (X57.specialBack hx (y := (⟨"com/example/covenant_atlas/covenantatlas/model/OutlineEntry", "<init>", "(Lcom/example/covenant_atlas/covenantatlas/model/PartKind;Ljava/lang/String;Ljava/lang/String;II)V"⟩ : MethodName)) rfl hown (mvT hZ (hw _ (List.mem_of_getElem? (i := 35) rfl))) (mvT hZ (hw _ (List.mem_of_getElem? (i := 36) rfl))) (mvT hZ (hw _ (List.mem_of_getElem? (i := 37) rfl))) (by decide) (backOf (W := 1) (rm6 l Z a0 hw [] b56 vo58 sa52 sa54 vi44 vi48 h56 n0 g_b56 A56 F56_kind F56_number F56_heading F56_line F56_column Ek59 ((((E52c.keep K53c).keep K54c).keep K55c).ext E56) ((E54c.keep K55c).ext E56) (Ne.symm nk59) (Ne.symm ne_sa52_b56) (Ne.symm ne_sa54_b56) ) hZ (hw _ (List.mem_of_getElem? (i := 37) rfl)) (hw _ (List.mem_of_getElem? (i := 28) rfl)) (by decide) (by decide)) (g := (mkF m 387 #[.val (.int p1), .val (.int p2), .val (.int p3), .val (.long q4), .second, .val (.long q5), .second, .val (.int z2_S0), .val (.int z5_S0), .val (.int z8_S0), .val (.int z11_S0), .val (.int z14_S0), .val (.int vi16), .val (.int z18_S0), .val (.int vi20), .val (.int z22_S0), .val (.int vi24), .val (.int vi25), .val (.int z27_S0), .val (.int z30_S0), .val (.int vi32), .val (.int z34_S0), .val (.int vi36), .val (.int vi37), .val (.int z39_S0), .val (.int z42_S0), .val (.int vi44), .val (.int z46_S0), .val (.int vi48), .val (.int z50_S0), .val (.ref sa52), .val (.ref sa53), .val (.ref sa54), .val (.ref sa55), .unset, .unset, .unset, .unset, .unset, .unset, .unset, .unset, .unset, .unset, .unset] [(.int vi48), (.int vi44), (.ref sa54), (.ref sa52), (.ref vo58), (.ref b56), (.ref b56)])) rfl (by rw [hml]; rfl) (Steps.refl _) (a := b56) (argsL := [(.ref vo58), (.ref sa52), (.ref sa54), (.int vi44), (.int vi48)]) (rest := [(.ref b56)]) (lenOf pd_10 rfl) rfl (by show 2 * 0 + _ ≤ _; exact Nat.le_of_eq rfl) (hb hby at_387) (fun _ _ => ⟨rfl, e57, (by decide : 17 + 0 ≤ _), (by decide : 37 + 0 ≤ _)⟩))
                              dsimp only [Pt.U] at st60
                              have er60 : T60.heap = T60.heap := rfl
                              obtain ⟨rfl, N60q, K60c, F60c0, F60c1, F60c2, F60c3, F60c4, F60c5⟩ := hQ60
                              have N60 := Fr.app N57 N60q
                              replace X60 : Stand p l e room_1 (s.setVm T55.vm) m _ below meth c T60 _ 17 37 := X60
                              refine own_go (fun t_ k => st60.trans k) ?_
                              have Sk60_0 := own_sta_k (Sk55_0.ext E56) K60c (own_plS (own_plE A56) (own_pl0))
                              have Sk60_1 := own_sta_k (Sk55_1.ext E56) K60c (own_plS (own_plE A56) (own_pl0))
                              have Sk60_2 := own_sta_k (Sk55_2.ext E56) K60c (own_plS (own_plE A56) (own_pl0))
                              have Sk60_3 := own_sta_k (Sk55_3.ext E56) K60c (own_plS (own_plE A56) (own_pl0))
                              have Sk60_4 := own_sta_k (Sk55_4.ext E56) K60c (own_plS (own_plE A56) (own_pl0))
                              have Sk60_5 := own_sta_k (Sk55_5.ext E56) K60c (own_plS (own_plE A56) (own_pl0))
                              have K60 : Keep h0 T60.heap [] := K56.trans K60c (allS (Or.inr sz_b56) all0)
                              show WP p e below _ (T60.setTop (mkF m 390 #[.val (.int p1), .val (.int p2), .val (.int p3), .val (.long q4), .second, .val (.long q5), .second, .val (.int z2_S0), .val (.int z5_S0), .val (.int z8_S0), .val (.int z11_S0), .val (.int z14_S0), .val (.int vi16), .val (.int z18_S0), .val (.int vi20), .val (.int z22_S0), .val (.int vi24), .val (.int vi25), .val (.int z27_S0), .val (.int z30_S0), .val (.int vi32), .val (.int z34_S0), .val (.int vi36), .val (.int vi37), .val (.int z39_S0), .val (.int z42_S0), .val (.int vi44), .val (.int z46_S0), .val (.int vi48), .val (.int z50_S0), .val (.ref sa52), .val (.ref sa53), .val (.ref sa54), .val (.ref sa55), .unset, .unset, .unset, .unset, .unset, .unset, .unset, .unset, .unset, .unset, .unset] [(.ref b56)]))
                              refine own_go (fun t_ k => XS.astore X60.here hx rfl (hb hby at_390) rfl rfl (l' := #[.val (.int p1), .val (.int p2), .val (.int p3), .val (.long q4), .second, .val (.long q5), .second, .val (.int z2_S0), .val (.int z5_S0), .val (.int z8_S0), .val (.int z11_S0), .val (.int z14_S0), .val (.int vi16), .val (.int z18_S0), .val (.int vi20), .val (.int z22_S0), .val (.int vi24), .val (.int vi25), .val (.int z27_S0), .val (.int z30_S0), .val (.int vi32), .val (.int z34_S0), .val (.int vi36), .val (.int vi37), .val (.int z39_S0), .val (.int z42_S0), .val (.int vi44), .val (.int z46_S0), .val (.int vi48), .val (.int z50_S0), .val (.ref sa52), .val (.ref sa53), .val (.ref sa54), .val (.ref sa55), .val (.ref b56), .unset, .unset, .unset, .unset, .unset, .unset, .unset, .unset, .unset, .unset]) rfl k) ?_
                              show WP p e below _ (T60.setTop (mkF m 392 #[.val (.int p1), .val (.int p2), .val (.int p3), .val (.long q4), .second, .val (.long q5), .second, .val (.int z2_S0), .val (.int z5_S0), .val (.int z8_S0), .val (.int z11_S0), .val (.int z14_S0), .val (.int vi16), .val (.int z18_S0), .val (.int vi20), .val (.int z22_S0), .val (.int vi24), .val (.int vi25), .val (.int z27_S0), .val (.int z30_S0), .val (.int vi32), .val (.int z34_S0), .val (.int vi36), .val (.int vi37), .val (.int z39_S0), .val (.int z42_S0), .val (.int vi44), .val (.int z46_S0), .val (.int vi48), .val (.int z50_S0), .val (.ref sa52), .val (.ref sa53), .val (.ref sa54), .val (.ref sa55), .val (.ref b56), .unset, .unset, .unset, .unset, .unset, .unset, .unset, .unset, .unset, .unset] []))
                              obtain ⟨T61, h61, X61, e61, E61, A61, D61, -, st61⟩ := newO X60 hx hZ hown (hw _ (List.mem_of_getElem? (i := 26) rfl)) (hw _ (List.mem_of_getElem? (i := 27) rfl)) (hw _ (List.mem_of_getElem? (i := 28) rfl)) er60 (g := (mkF m 392 #[.val (.int p1), .val (.int p2), .val (.int p3), .val (.long q4), .second, .val (.long q5), .second, .val (.int z2_S0), .val (.int z5_S0), .val (.int z8_S0), .val (.int z11_S0), .val (.int z14_S0), .val (.int vi16), .val (.int z18_S0), .val (.int vi20), .val (.int z22_S0), .val (.int vi24), .val (.int vi25), .val (.int z27_S0), .val (.int z30_S0), .val (.int vi32), .val (.int z34_S0), .val (.int vi36), .val (.int vi37), .val (.int z39_S0), .val (.int z42_S0), .val (.int vi44), .val (.int z46_S0), .val (.int vi48), .val (.int z50_S0), .val (.ref sa52), .val (.ref sa53), .val (.ref sa54), .val (.ref sa55), .val (.ref b56), .unset, .unset, .unset, .unset, .unset, .unset, .unset, .unset, .unset, .unset] [])) rfl (hb hby at_392) (by decide) (by decide)
                              obtain ⟨b61, g61⟩ : ∃ z, z = Array.size T60.heap := ⟨_, rfl⟩
                              rw [← g61] at A61 D61 st61
                              refine own_go st61 ?_
                              have g_b61 : n0 ≤ b61 := Nat.le_trans (Nat.le_trans Z0 K60.1) (Nat.le_of_eq g61.symm)
                              have sz_b61 : h0.size ≤ b61 := Nat.le_trans K60.1 (Nat.le_of_eq g61.symm)
                              have ne_kq0_b61 : kq0 ≠ b61 := Nat.ne_of_lt (Nat.lt_of_lt_of_le ((((((Ek0.keep K52c).keep K53c).keep K54c).keep K55c).ext E56).keep K60c).lt (Nat.le_of_eq g61.symm))
                              have ne_kq1_b61 : kq1 ≠ b61 := Nat.ne_of_lt (Nat.lt_of_lt_of_le ((((((Ek1.keep K52c).keep K53c).keep K54c).keep K55c).ext E56).keep K60c).lt (Nat.le_of_eq g61.symm))
                              have ne_kq2_b61 : kq2 ≠ b61 := Nat.ne_of_lt (Nat.lt_of_lt_of_le ((((((Ek2.keep K52c).keep K53c).keep K54c).keep K55c).ext E56).keep K60c).lt (Nat.le_of_eq g61.symm))
                              have ne_kq3_b61 : kq3 ≠ b61 := Nat.ne_of_lt (Nat.lt_of_lt_of_le ((((((Ek3.keep K52c).keep K53c).keep K54c).keep K55c).ext E56).keep K60c).lt (Nat.le_of_eq g61.symm))
                              have ne_kq4_b61 : kq4 ≠ b61 := Nat.ne_of_lt (Nat.lt_of_lt_of_le ((((((Ek4.keep K52c).keep K53c).keep K54c).keep K55c).ext E56).keep K60c).lt (Nat.le_of_eq g61.symm))
                              have ne_sa52_b61 : sa52 ≠ b61 := Nat.ne_of_lt (Nat.lt_of_lt_of_le (((((E52c.keep K53c).keep K54c).keep K55c).ext E56).keep K60c).lt (Nat.le_of_eq g61.symm))
                              have ne_sb52_b61 : sb52 ≠ b61 := Nat.ne_of_lt (Nat.lt_of_lt_of_le (((((V52c.keep K53c nin0).keep K54c nin0).keep K55c nin0).ext E56).keep K60c (ninS ne_sb52_b56 nin0)).lt (Nat.le_of_eq g61.symm))
                              have ne_sa53_b61 : sa53 ≠ b61 := Nat.ne_of_lt (Nat.lt_of_lt_of_le ((((E53c.keep K54c).keep K55c).ext E56).keep K60c).lt (Nat.le_of_eq g61.symm))
                              have ne_sb53_b61 : sb53 ≠ b61 := Nat.ne_of_lt (Nat.lt_of_lt_of_le ((((V53c.keep K54c nin0).keep K55c nin0).ext E56).keep K60c (ninS ne_sb53_b56 nin0)).lt (Nat.le_of_eq g61.symm))
                              have ne_sa54_b61 : sa54 ≠ b61 := Nat.ne_of_lt (Nat.lt_of_lt_of_le (((E54c.keep K55c).ext E56).keep K60c).lt (Nat.le_of_eq g61.symm))
                              have ne_sb54_b61 : sb54 ≠ b61 := Nat.ne_of_lt (Nat.lt_of_lt_of_le (((V54c.keep K55c nin0).ext E56).keep K60c (ninS ne_sb54_b56 nin0)).lt (Nat.le_of_eq g61.symm))
                              have ne_sa55_b61 : sa55 ≠ b61 := Nat.ne_of_lt (Nat.lt_of_lt_of_le ((E55c.ext E56).keep K60c).lt (Nat.le_of_eq g61.symm))
                              have ne_sb55_b61 : sb55 ≠ b61 := Nat.ne_of_lt (Nat.lt_of_lt_of_le ((V55c.ext E56).keep K60c (ninS ne_sb55_b56 nin0)).lt (Nat.le_of_eq g61.symm))
                              have ne_b56_b61 : b56 ≠ b61 := Nat.ne_of_lt (Nat.lt_of_lt_of_le F60c0.lt (Nat.le_of_eq g61.symm))
                              have ne_vo58_b61 : vo58 ≠ b61 := Nat.ne_of_lt (Nat.lt_of_lt_of_le (Ek59.keep K60c).lt (Nat.le_of_eq g61.symm))
                              have K61 : Keep h0 h61 [] := K60.ext E61
                              have F61_kind : Fld Z h61 b61 "com/example/covenant_atlas/covenantatlas/model/OutlineEntry" "kind" "Lcom/example/covenant_atlas/covenantatlas/model/PartKind;" .null := D61 (Or.inr (hw _ (List.mem_of_getElem? (i := 46) rfl))) (ty := (.object "com/example/covenant_atlas/covenantatlas/model/PartKind")) (by decide)
                              have F61_number : Fld Z h61 b61 "com/example/covenant_atlas/covenantatlas/model/OutlineEntry" "number" "Ljava/lang/String;" .null := D61 (Or.inr (hw _ (List.mem_of_getElem? (i := 49) rfl))) (ty := (.object "java/lang/String")) (by decide)
                              have F61_heading : Fld Z h61 b61 "com/example/covenant_atlas/covenantatlas/model/OutlineEntry" "heading" "Ljava/lang/String;" .null := D61 (Or.inr (hw _ (List.mem_of_getElem? (i := 51) rfl))) (ty := (.object "java/lang/String")) (by decide)
                              have F61_line : Fld Z h61 b61 "com/example/covenant_atlas/covenantatlas/model/OutlineEntry" "line" "I" (.int (0 : Int32)) := D61 (Or.inr (hw _ (List.mem_of_getElem? (i := 53) rfl))) (ty := .int) (by decide)
                              have F61_column : Fld Z h61 b61 "com/example/covenant_atlas/covenantatlas/model/OutlineEntry" "column" "I" (.int (0 : Int32)) := D61 (Or.inr (hw _ (List.mem_of_getElem? (i := 55) rfl))) (ty := .int) (by decide)
                              show WP p e below _ (T61.setTop (mkF m 395 #[.val (.int p1), .val (.int p2), .val (.int p3), .val (.long q4), .second, .val (.long q5), .second, .val (.int z2_S0), .val (.int z5_S0), .val (.int z8_S0), .val (.int z11_S0), .val (.int z14_S0), .val (.int vi16), .val (.int z18_S0), .val (.int vi20), .val (.int z22_S0), .val (.int vi24), .val (.int vi25), .val (.int z27_S0), .val (.int z30_S0), .val (.int vi32), .val (.int z34_S0), .val (.int vi36), .val (.int vi37), .val (.int z39_S0), .val (.int z42_S0), .val (.int vi44), .val (.int z46_S0), .val (.int vi48), .val (.int z50_S0), .val (.ref sa52), .val (.ref sa53), .val (.ref sa54), .val (.ref sa55), .val (.ref b56), .unset, .unset, .unset, .unset, .unset, .unset, .unset, .unset, .unset, .unset] [(.ref b61)]))
                              refine own_go (fun t_ k => XS.dup X61.here hx rfl (hb hby at_395) rfl rfl k) ?_
                              show WP p e below _ (T61.setTop (mkF m 396 #[.val (.int p1), .val (.int p2), .val (.int p3), .val (.long q4), .second, .val (.long q5), .second, .val (.int z2_S0), .val (.int z5_S0), .val (.int z8_S0), .val (.int z11_S0), .val (.int z14_S0), .val (.int vi16), .val (.int z18_S0), .val (.int vi20), .val (.int z22_S0), .val (.int vi24), .val (.int vi25), .val (.int z27_S0), .val (.int z30_S0), .val (.int vi32), .val (.int z34_S0), .val (.int vi36), .val (.int vi37), .val (.int z39_S0), .val (.int z42_S0), .val (.int vi44), .val (.int z46_S0), .val (.int vi48), .val (.int z50_S0), .val (.ref sa52), .val (.ref sa53), .val (.ref sa54), .val (.ref sa55), .val (.ref b56), .unset, .unset, .unset, .unset, .unset, .unset, .unset, .unset, .unset, .unset] [(.ref b61), (.ref b61)]))
                              refine own_go (fun t_ k => XS.iload X61.here hx rfl (hb hby at_396) rfl k) ?_
                              show WP p e below _ (T61.setTop (mkF m 398 #[.val (.int p1), .val (.int p2), .val (.int p3), .val (.long q4), .second, .val (.long q5), .second, .val (.int z2_S0), .val (.int z5_S0), .val (.int z8_S0), .val (.int z11_S0), .val (.int z14_S0), .val (.int vi16), .val (.int z18_S0), .val (.int vi20), .val (.int z22_S0), .val (.int vi24), .val (.int vi25), .val (.int z27_S0), .val (.int z30_S0), .val (.int vi32), .val (.int z34_S0), .val (.int vi36), .val (.int vi37), .val (.int z39_S0), .val (.int z42_S0), .val (.int vi44), .val (.int z46_S0), .val (.int vi48), .val (.int z50_S0), .val (.ref sa52), .val (.ref sa53), .val (.ref sa54), .val (.ref sa55), .val (.ref b56), .unset, .unset, .unset, .unset, .unset, .unset, .unset, .unset, .unset, .unset] [(.int z18_S0), (.ref b61), (.ref b61)]))
                              obtain ⟨_, T62, Lc62, X62, hQ62, st62⟩ := own_un X61 0 0 (Jvm.LawKit.callS X61 hx (y := (⟨"com/example/covenant_atlas/covenantatlas/model/OutlineEntryEqualsPinLaw", "kindOf", "(I)Lcom/example/covenant_atlas/covenantatlas/model/PartKind;"⟩ : MethodName)) hown (mvT hZ (hw _ (List.mem_of_getElem? (i := 29) rfl))) (mvT hZ (hw _ (List.mem_of_getElem? (i := 30) rfl))) (mvT hZ (hw _ (List.mem_of_getElem? (i := 2) rfl))) (mvT hZ (hw _ (List.mem_of_getElem? (i := 31) rfl))) (by decide) (backOf (W := 2) (rm5 l Z a0 hw [] z18_S0 kq0 kq1 kq2 kq3 kq4 h61 n0 (Sk60_1.ext E61) (Sk60_2.ext E61) (Sk60_3.ext E61) (Sk60_4.ext E61) (Sk60_5.ext E61)) hZ (hw _ (List.mem_of_getElem? (i := 31) rfl)) (hw _ (List.mem_of_getElem? (i := 2) rfl)) (by decide) (by decide)) (g := (mkF m 398 #[.val (.int p1), .val (.int p2), .val (.int p3), .val (.long q4), .second, .val (.long q5), .second, .val (.int z2_S0), .val (.int z5_S0), .val (.int z8_S0), .val (.int z11_S0), .val (.int z14_S0), .val (.int vi16), .val (.int z18_S0), .val (.int vi20), .val (.int z22_S0), .val (.int vi24), .val (.int vi25), .val (.int z27_S0), .val (.int z30_S0), .val (.int vi32), .val (.int z34_S0), .val (.int vi36), .val (.int vi37), .val (.int z39_S0), .val (.int z42_S0), .val (.int vi44), .val (.int z46_S0), .val (.int vi48), .val (.int z50_S0), .val (.ref sa52), .val (.ref sa53), .val (.ref sa54), .val (.ref sa55), .val (.ref b56), .unset, .unset, .unset, .unset, .unset, .unset, .unset, .unset, .unset, .unset] [(.int z18_S0), (.ref b61), (.ref b61)])) rfl (by rw [hml]; rfl) (argsL := [(.int z18_S0)]) (rest := [(.ref b61), (.ref b61)]) (lenOf pd_9 rfl) rfl (by show 2 * 0 + _ ≤ _; exact Nat.le_of_eq rfl) (hb hby at_398) (fun _ _ => ⟨rfl, e61, (by decide : 18 + 0 ≤ _), (by decide : 42 + 0 ≤ _)⟩))
                              dsimp only [Pt.U] at st62
                              have er62 : T62.heap = T62.heap := rfl
                              obtain ⟨rfl, N62q, e62⟩ := hQ62
                              have N62 := Fr.app N60 N62q
                              replace X62 : Stand p l e room_1 (s.setVm T55.vm) m _ below meth c T62 _ 18 42 := X62
                              refine own_go st62 ?_
                              show WP p e below _ (T62.setTop (mkF m 401 #[.val (.int p1), .val (.int p2), .val (.int p3), .val (.long q4), .second, .val (.long q5), .second, .val (.int z2_S0), .val (.int z5_S0), .val (.int z8_S0), .val (.int z11_S0), .val (.int z14_S0), .val (.int vi16), .val (.int z18_S0), .val (.int vi20), .val (.int z22_S0), .val (.int vi24), .val (.int vi25), .val (.int z27_S0), .val (.int z30_S0), .val (.int vi32), .val (.int z34_S0), .val (.int vi36), .val (.int vi37), .val (.int z39_S0), .val (.int z42_S0), .val (.int vi44), .val (.int z46_S0), .val (.int vi48), .val (.int z50_S0), .val (.ref sa52), .val (.ref sa53), .val (.ref sa54), .val (.ref sa55), .val (.ref b56), .unset, .unset, .unset, .unset, .unset, .unset, .unset, .unset, .unset, .unset] [(.ref (kf z18_S0 kq0 kq1 kq2 kq3 kq4)), (.ref b61), (.ref b61)]))
                              generalize he63 : (kf z18_S0 kq0 kq1 kq2 kq3 kq4) = vo63
                              have Ek64 := own_kfE he63 (((((((Ek0.keep K52c).keep K53c).keep K54c).keep K55c).ext E56).keep K60c).ext E61) (((((((Ek1.keep K52c).keep K53c).keep K54c).keep K55c).ext E56).keep K60c).ext E61) (((((((Ek2.keep K52c).keep K53c).keep K54c).keep K55c).ext E56).keep K60c).ext E61) (((((((Ek3.keep K52c).keep K53c).keep K54c).keep K55c).ext E56).keep K60c).ext E61) (((((((Ek4.keep K52c).keep K53c).keep K54c).keep K55c).ext E56).keep K60c).ext E61)
                              have nk64 : vo63 ≠ b61 := own_kfN he63 ne_kq0_b61 ne_kq1_b61 ne_kq2_b61 ne_kq3_b61 ne_kq4_b61
                              show WP p e below _ (T62.setTop (mkF m 401 #[.val (.int p1), .val (.int p2), .val (.int p3), .val (.long q4), .second, .val (.long q5), .second, .val (.int z2_S0), .val (.int z5_S0), .val (.int z8_S0), .val (.int z11_S0), .val (.int z14_S0), .val (.int vi16), .val (.int z18_S0), .val (.int vi20), .val (.int z22_S0), .val (.int vi24), .val (.int vi25), .val (.int z27_S0), .val (.int z30_S0), .val (.int vi32), .val (.int z34_S0), .val (.int vi36), .val (.int vi37), .val (.int z39_S0), .val (.int z42_S0), .val (.int vi44), .val (.int z46_S0), .val (.int vi48), .val (.int z50_S0), .val (.ref sa52), .val (.ref sa53), .val (.ref sa54), .val (.ref sa55), .val (.ref b56), .unset, .unset, .unset, .unset, .unset, .unset, .unset, .unset, .unset, .unset] [(.ref vo63), (.ref b61), (.ref b61)]))
                              refine own_go (fun t_ k => XS.aload X62.here hx rfl (hb hby at_401) rfl rfl k) ?_
                              show WP p e below _ (T62.setTop (mkF m 403 #[.val (.int p1), .val (.int p2), .val (.int p3), .val (.long q4), .second, .val (.long q5), .second, .val (.int z2_S0), .val (.int z5_S0), .val (.int z8_S0), .val (.int z11_S0), .val (.int z14_S0), .val (.int vi16), .val (.int z18_S0), .val (.int vi20), .val (.int z22_S0), .val (.int vi24), .val (.int vi25), .val (.int z27_S0), .val (.int z30_S0), .val (.int vi32), .val (.int z34_S0), .val (.int vi36), .val (.int vi37), .val (.int z39_S0), .val (.int z42_S0), .val (.int vi44), .val (.int z46_S0), .val (.int vi48), .val (.int z50_S0), .val (.ref sa52), .val (.ref sa53), .val (.ref sa54), .val (.ref sa55), .val (.ref b56), .unset, .unset, .unset, .unset, .unset, .unset, .unset, .unset, .unset, .unset] [(.ref sa53), (.ref vo63), (.ref b61), (.ref b61)]))
                              refine own_go (fun t_ k => XS.aload X62.here hx rfl (hb hby at_403) rfl rfl k) ?_
                              show WP p e below _ (T62.setTop (mkF m 405 #[.val (.int p1), .val (.int p2), .val (.int p3), .val (.long q4), .second, .val (.long q5), .second, .val (.int z2_S0), .val (.int z5_S0), .val (.int z8_S0), .val (.int z11_S0), .val (.int z14_S0), .val (.int vi16), .val (.int z18_S0), .val (.int vi20), .val (.int z22_S0), .val (.int vi24), .val (.int vi25), .val (.int z27_S0), .val (.int z30_S0), .val (.int vi32), .val (.int z34_S0), .val (.int vi36), .val (.int vi37), .val (.int z39_S0), .val (.int z42_S0), .val (.int vi44), .val (.int z46_S0), .val (.int vi48), .val (.int z50_S0), .val (.ref sa52), .val (.ref sa53), .val (.ref sa54), .val (.ref sa55), .val (.ref b56), .unset, .unset, .unset, .unset, .unset, .unset, .unset, .unset, .unset, .unset] [(.ref sa55), (.ref sa53), (.ref vo63), (.ref b61), (.ref b61)]))
                              refine own_go (fun t_ k => XS.iload X62.here hx rfl (hb hby at_405) rfl k) ?_
                              show WP p e below _ (T62.setTop (mkF m 407 #[.val (.int p1), .val (.int p2), .val (.int p3), .val (.long q4), .second, .val (.long q5), .second, .val (.int z2_S0), .val (.int z5_S0), .val (.int z8_S0), .val (.int z11_S0), .val (.int z14_S0), .val (.int vi16), .val (.int z18_S0), .val (.int vi20), .val (.int z22_S0), .val (.int vi24), .val (.int vi25), .val (.int z27_S0), .val (.int z30_S0), .val (.int vi32), .val (.int z34_S0), .val (.int vi36), .val (.int vi37), .val (.int z39_S0), .val (.int z42_S0), .val (.int vi44), .val (.int z46_S0), .val (.int vi48), .val (.int z50_S0), .val (.ref sa52), .val (.ref sa53), .val (.ref sa54), .val (.ref sa55), .val (.ref b56), .unset, .unset, .unset, .unset, .unset, .unset, .unset, .unset, .unset, .unset] [(.int z46_S0), (.ref sa55), (.ref sa53), (.ref vo63), (.ref b61), (.ref b61)]))
                              refine own_go (fun t_ k => XS.iload X62.here hx rfl (hb hby at_407) rfl k) ?_
                              show WP p e below _ (T62.setTop (mkF m 409 #[.val (.int p1), .val (.int p2), .val (.int p3), .val (.long q4), .second, .val (.long q5), .second, .val (.int z2_S0), .val (.int z5_S0), .val (.int z8_S0), .val (.int z11_S0), .val (.int z14_S0), .val (.int vi16), .val (.int z18_S0), .val (.int vi20), .val (.int z22_S0), .val (.int vi24), .val (.int vi25), .val (.int z27_S0), .val (.int z30_S0), .val (.int vi32), .val (.int z34_S0), .val (.int vi36), .val (.int vi37), .val (.int z39_S0), .val (.int z42_S0), .val (.int vi44), .val (.int z46_S0), .val (.int vi48), .val (.int z50_S0), .val (.ref sa52), .val (.ref sa53), .val (.ref sa54), .val (.ref sa55), .val (.ref b56), .unset, .unset, .unset, .unset, .unset, .unset, .unset, .unset, .unset, .unset] [(.int z50_S0), (.int z46_S0), (.ref sa55), (.ref sa53), (.ref vo63), (.ref b61), (.ref b61)]))
                              obtain ⟨_, T65, Lc65, X65, hQ65, st65⟩ := own_un X62 0 0 (X62.specialBack hx (y := (⟨"com/example/covenant_atlas/covenantatlas/model/OutlineEntry", "<init>", "(Lcom/example/covenant_atlas/covenantatlas/model/PartKind;Ljava/lang/String;Ljava/lang/String;II)V"⟩ : MethodName)) rfl hown (mvT hZ (hw _ (List.mem_of_getElem? (i := 35) rfl))) (mvT hZ (hw _ (List.mem_of_getElem? (i := 36) rfl))) (mvT hZ (hw _ (List.mem_of_getElem? (i := 37) rfl))) (by decide) (backOf (W := 1) (rm6 l Z a0 hw [] b61 vo63 sa53 sa55 z46_S0 z50_S0 h61 n0 g_b61 A61 F61_kind F61_number F61_heading F61_line F61_column Ek64 (((((E53c.keep K54c).keep K55c).ext E56).keep K60c).ext E61) (((E55c.ext E56).keep K60c).ext E61) (Ne.symm nk64) (Ne.symm ne_sa53_b61) (Ne.symm ne_sa55_b61) ) hZ (hw _ (List.mem_of_getElem? (i := 37) rfl)) (hw _ (List.mem_of_getElem? (i := 28) rfl)) (by decide) (by decide)) (g := (mkF m 409 #[.val (.int p1), .val (.int p2), .val (.int p3), .val (.long q4), .second, .val (.long q5), .second, .val (.int z2_S0), .val (.int z5_S0), .val (.int z8_S0), .val (.int z11_S0), .val (.int z14_S0), .val (.int vi16), .val (.int z18_S0), .val (.int vi20), .val (.int z22_S0), .val (.int vi24), .val (.int vi25), .val (.int z27_S0), .val (.int z30_S0), .val (.int vi32), .val (.int z34_S0), .val (.int vi36), .val (.int vi37), .val (.int z39_S0), .val (.int z42_S0), .val (.int vi44), .val (.int z46_S0), .val (.int vi48), .val (.int z50_S0), .val (.ref sa52), .val (.ref sa53), .val (.ref sa54), .val (.ref sa55), .val (.ref b56), .unset, .unset, .unset, .unset, .unset, .unset, .unset, .unset, .unset, .unset] [(.int z50_S0), (.int z46_S0), (.ref sa55), (.ref sa53), (.ref vo63), (.ref b61), (.ref b61)])) rfl (by rw [hml]; rfl) (Steps.refl _) (a := b61) (argsL := [(.ref vo63), (.ref sa53), (.ref sa55), (.int z46_S0), (.int z50_S0)]) (rest := [(.ref b61)]) (lenOf pd_10 rfl) rfl (by show 2 * 0 + _ ≤ _; exact Nat.le_of_eq rfl) (hb hby at_409) (fun _ _ => ⟨rfl, e62, (by decide : 18 + 0 ≤ _), (by decide : 42 + 0 ≤ _)⟩))
                              dsimp only [Pt.U] at st65
                              have er65 : T65.heap = T65.heap := rfl
                              obtain ⟨rfl, N65q, K65c, F65c0, F65c1, F65c2, F65c3, F65c4, F65c5⟩ := hQ65
                              have N65 := Fr.app N62 N65q
                              replace X65 : Stand p l e room_1 (s.setVm T55.vm) m _ below meth c T65 _ 18 42 := X65
                              refine own_go (fun t_ k => st65.trans k) ?_
                              have Sk65_0 := own_sta_k (Sk60_0.ext E61) K65c (own_plS (own_plE A61) (own_pl0))
                              have Sk65_1 := own_sta_k (Sk60_1.ext E61) K65c (own_plS (own_plE A61) (own_pl0))
                              have Sk65_2 := own_sta_k (Sk60_2.ext E61) K65c (own_plS (own_plE A61) (own_pl0))
                              have Sk65_3 := own_sta_k (Sk60_3.ext E61) K65c (own_plS (own_plE A61) (own_pl0))
                              have Sk65_4 := own_sta_k (Sk60_4.ext E61) K65c (own_plS (own_plE A61) (own_pl0))
                              have Sk65_5 := own_sta_k (Sk60_5.ext E61) K65c (own_plS (own_plE A61) (own_pl0))
                              have K65 : Keep h0 T65.heap [] := K61.trans K65c (allS (Or.inr sz_b61) all0)
                              show WP p e below _ (T65.setTop (mkF m 412 #[.val (.int p1), .val (.int p2), .val (.int p3), .val (.long q4), .second, .val (.long q5), .second, .val (.int z2_S0), .val (.int z5_S0), .val (.int z8_S0), .val (.int z11_S0), .val (.int z14_S0), .val (.int vi16), .val (.int z18_S0), .val (.int vi20), .val (.int z22_S0), .val (.int vi24), .val (.int vi25), .val (.int z27_S0), .val (.int z30_S0), .val (.int vi32), .val (.int z34_S0), .val (.int vi36), .val (.int vi37), .val (.int z39_S0), .val (.int z42_S0), .val (.int vi44), .val (.int z46_S0), .val (.int vi48), .val (.int z50_S0), .val (.ref sa52), .val (.ref sa53), .val (.ref sa54), .val (.ref sa55), .val (.ref b56), .unset, .unset, .unset, .unset, .unset, .unset, .unset, .unset, .unset, .unset] [(.ref b61)]))
                              refine own_go (fun t_ k => XS.astore X65.here hx rfl (hb hby at_412) rfl rfl (l' := #[.val (.int p1), .val (.int p2), .val (.int p3), .val (.long q4), .second, .val (.long q5), .second, .val (.int z2_S0), .val (.int z5_S0), .val (.int z8_S0), .val (.int z11_S0), .val (.int z14_S0), .val (.int vi16), .val (.int z18_S0), .val (.int vi20), .val (.int z22_S0), .val (.int vi24), .val (.int vi25), .val (.int z27_S0), .val (.int z30_S0), .val (.int vi32), .val (.int z34_S0), .val (.int vi36), .val (.int vi37), .val (.int z39_S0), .val (.int z42_S0), .val (.int vi44), .val (.int z46_S0), .val (.int vi48), .val (.int z50_S0), .val (.ref sa52), .val (.ref sa53), .val (.ref sa54), .val (.ref sa55), .val (.ref b56), .val (.ref b61), .unset, .unset, .unset, .unset, .unset, .unset, .unset, .unset, .unset]) rfl k) ?_
                              show WP p e below _ (T65.setTop (mkF m 414 #[.val (.int p1), .val (.int p2), .val (.int p3), .val (.long q4), .second, .val (.long q5), .second, .val (.int z2_S0), .val (.int z5_S0), .val (.int z8_S0), .val (.int z11_S0), .val (.int z14_S0), .val (.int vi16), .val (.int z18_S0), .val (.int vi20), .val (.int z22_S0), .val (.int vi24), .val (.int vi25), .val (.int z27_S0), .val (.int z30_S0), .val (.int vi32), .val (.int z34_S0), .val (.int vi36), .val (.int vi37), .val (.int z39_S0), .val (.int z42_S0), .val (.int vi44), .val (.int z46_S0), .val (.int vi48), .val (.int z50_S0), .val (.ref sa52), .val (.ref sa53), .val (.ref sa54), .val (.ref sa55), .val (.ref b56), .val (.ref b61), .unset, .unset, .unset, .unset, .unset, .unset, .unset, .unset, .unset] []))
                              refine own_go (fun t_ k => XS.iload X65.here hx rfl (hb hby at_414) rfl k) ?_
                              show WP p e below _ (T65.setTop (mkF m 416 #[.val (.int p1), .val (.int p2), .val (.int p3), .val (.long q4), .second, .val (.long q5), .second, .val (.int z2_S0), .val (.int z5_S0), .val (.int z8_S0), .val (.int z11_S0), .val (.int z14_S0), .val (.int vi16), .val (.int z18_S0), .val (.int vi20), .val (.int z22_S0), .val (.int vi24), .val (.int vi25), .val (.int z27_S0), .val (.int z30_S0), .val (.int vi32), .val (.int z34_S0), .val (.int vi36), .val (.int vi37), .val (.int z39_S0), .val (.int z42_S0), .val (.int vi44), .val (.int z46_S0), .val (.int vi48), .val (.int z50_S0), .val (.ref sa52), .val (.ref sa53), .val (.ref sa54), .val (.ref sa55), .val (.ref b56), .val (.ref b61), .unset, .unset, .unset, .unset, .unset, .unset, .unset, .unset, .unset] [(.int vi16)]))
                              refine own_go (fun t_ k => XS.iload X65.here hx rfl (hb hby at_416) rfl k) ?_
                              show WP p e below _ (T65.setTop (mkF m 418 #[.val (.int p1), .val (.int p2), .val (.int p3), .val (.long q4), .second, .val (.long q5), .second, .val (.int z2_S0), .val (.int z5_S0), .val (.int z8_S0), .val (.int z11_S0), .val (.int z14_S0), .val (.int vi16), .val (.int z18_S0), .val (.int vi20), .val (.int z22_S0), .val (.int vi24), .val (.int vi25), .val (.int z27_S0), .val (.int z30_S0), .val (.int vi32), .val (.int z34_S0), .val (.int vi36), .val (.int vi37), .val (.int z39_S0), .val (.int z42_S0), .val (.int vi44), .val (.int z46_S0), .val (.int vi48), .val (.int z50_S0), .val (.ref sa52), .val (.ref sa53), .val (.ref sa54), .val (.ref sa55), .val (.ref b56), .val (.ref b61), .unset, .unset, .unset, .unset, .unset, .unset, .unset, .unset, .unset] [(.int z18_S0), (.int vi16)]))
                              have J68 : ∀ (T68 : State) (ls68 : List Loc) (X68 : Stand p l e room_1 (s.setVm T55.vm) m #[(.int p1), (.int p2), (.int p3), (.long q4), (.long q5)] below meth c T68 ls68 18 42) (N68 : Fr n0 ls68) (e68 : T68.heap = T65.heap) (z67_S0 : Int32) (hz67_S0 : z67_S0 = (if vi16 = z18_S0 then (if (f8 vi20 vi24 vi25 z22_S0 z27_S0 z30_S0) = (0 : Int32) then (0 : Int32) else (if (f8 vi32 vi36 vi37 z34_S0 z39_S0 z42_S0) = (0 : Int32) then (0 : Int32) else (if vi44 = z46_S0 then (if vi48 = z50_S0 then (1 : Int32) else (0 : Int32)) else (0 : Int32)))) else (0 : Int32))), WP p e below (GGW (Q0 n0) s room_1.cells room_1.slots) (T68.setTop (mkF m 476 #[.val (.int p1), .val (.int p2), .val (.int p3), .val (.long q4), .second, .val (.long q5), .second, .val (.int z2_S0), .val (.int z5_S0), .val (.int z8_S0), .val (.int z11_S0), .val (.int z14_S0), .val (.int vi16), .val (.int z18_S0), .val (.int vi20), .val (.int z22_S0), .val (.int vi24), .val (.int vi25), .val (.int z27_S0), .val (.int z30_S0), .val (.int vi32), .val (.int z34_S0), .val (.int vi36), .val (.int vi37), .val (.int z39_S0), .val (.int z42_S0), .val (.int vi44), .val (.int z46_S0), .val (.int vi48), .val (.int z50_S0), .val (.ref sa52), .val (.ref sa53), .val (.ref sa54), .val (.ref sa55), .val (.ref b56), .val (.ref b61), .unset, .unset, .unset, .unset, .unset, .unset, .unset, .unset, .unset] [(.int z67_S0)])) := by
                                intro T68 ls68 X68 N68 e68 z67_S0 hz67_S0
                                show WP p e below _ (T68.setTop (mkF m 476 #[.val (.int p1), .val (.int p2), .val (.int p3), .val (.long q4), .second, .val (.long q5), .second, .val (.int z2_S0), .val (.int z5_S0), .val (.int z8_S0), .val (.int z11_S0), .val (.int z14_S0), .val (.int vi16), .val (.int z18_S0), .val (.int vi20), .val (.int z22_S0), .val (.int vi24), .val (.int vi25), .val (.int z27_S0), .val (.int z30_S0), .val (.int vi32), .val (.int z34_S0), .val (.int vi36), .val (.int vi37), .val (.int z39_S0), .val (.int z42_S0), .val (.int vi44), .val (.int z46_S0), .val (.int vi48), .val (.int z50_S0), .val (.ref sa52), .val (.ref sa53), .val (.ref sa54), .val (.ref sa55), .val (.ref b56), .val (.ref b61), .unset, .unset, .unset, .unset, .unset, .unset, .unset, .unset, .unset] [(.int z67_S0)]))
                                refine own_go (fun t_ k => XS.istore X68.here hx rfl (hb hby at_476) rfl (l' := #[.val (.int p1), .val (.int p2), .val (.int p3), .val (.long q4), .second, .val (.long q5), .second, .val (.int z2_S0), .val (.int z5_S0), .val (.int z8_S0), .val (.int z11_S0), .val (.int z14_S0), .val (.int vi16), .val (.int z18_S0), .val (.int vi20), .val (.int z22_S0), .val (.int vi24), .val (.int vi25), .val (.int z27_S0), .val (.int z30_S0), .val (.int vi32), .val (.int z34_S0), .val (.int vi36), .val (.int vi37), .val (.int z39_S0), .val (.int z42_S0), .val (.int vi44), .val (.int z46_S0), .val (.int vi48), .val (.int z50_S0), .val (.ref sa52), .val (.ref sa53), .val (.ref sa54), .val (.ref sa55), .val (.ref b56), .val (.ref b61), .val (.int z67_S0), .unset, .unset, .unset, .unset, .unset, .unset, .unset, .unset]) rfl k) ?_
                                show WP p e below _ (T68.setTop (mkF m 478 #[.val (.int p1), .val (.int p2), .val (.int p3), .val (.long q4), .second, .val (.long q5), .second, .val (.int z2_S0), .val (.int z5_S0), .val (.int z8_S0), .val (.int z11_S0), .val (.int z14_S0), .val (.int vi16), .val (.int z18_S0), .val (.int vi20), .val (.int z22_S0), .val (.int vi24), .val (.int vi25), .val (.int z27_S0), .val (.int z30_S0), .val (.int vi32), .val (.int z34_S0), .val (.int vi36), .val (.int vi37), .val (.int z39_S0), .val (.int z42_S0), .val (.int vi44), .val (.int z46_S0), .val (.int vi48), .val (.int z50_S0), .val (.ref sa52), .val (.ref sa53), .val (.ref sa54), .val (.ref sa55), .val (.ref b56), .val (.ref b61), .val (.int z67_S0), .unset, .unset, .unset, .unset, .unset, .unset, .unset, .unset] []))
                                refine own_go (fun t_ k => XS.aload X68.here hx rfl (hb hby at_478) rfl rfl k) ?_
                                show WP p e below _ (T68.setTop (mkF m 480 #[.val (.int p1), .val (.int p2), .val (.int p3), .val (.long q4), .second, .val (.long q5), .second, .val (.int z2_S0), .val (.int z5_S0), .val (.int z8_S0), .val (.int z11_S0), .val (.int z14_S0), .val (.int vi16), .val (.int z18_S0), .val (.int vi20), .val (.int z22_S0), .val (.int vi24), .val (.int vi25), .val (.int z27_S0), .val (.int z30_S0), .val (.int vi32), .val (.int z34_S0), .val (.int vi36), .val (.int vi37), .val (.int z39_S0), .val (.int z42_S0), .val (.int vi44), .val (.int z46_S0), .val (.int vi48), .val (.int z50_S0), .val (.ref sa52), .val (.ref sa53), .val (.ref sa54), .val (.ref sa55), .val (.ref b56), .val (.ref b61), .val (.int z67_S0), .unset, .unset, .unset, .unset, .unset, .unset, .unset, .unset] [(.ref b61)]))
                                refine own_go (fun t_ k => XS.astore X68.here hx rfl (hb hby at_480) rfl rfl (l' := #[.val (.int p1), .val (.int p2), .val (.int p3), .val (.long q4), .second, .val (.long q5), .second, .val (.int z2_S0), .val (.int z5_S0), .val (.int z8_S0), .val (.int z11_S0), .val (.int z14_S0), .val (.int vi16), .val (.int z18_S0), .val (.int vi20), .val (.int z22_S0), .val (.int vi24), .val (.int vi25), .val (.int z27_S0), .val (.int z30_S0), .val (.int vi32), .val (.int z34_S0), .val (.int vi36), .val (.int vi37), .val (.int z39_S0), .val (.int z42_S0), .val (.int vi44), .val (.int z46_S0), .val (.int vi48), .val (.int z50_S0), .val (.ref sa52), .val (.ref sa53), .val (.ref sa54), .val (.ref sa55), .val (.ref b56), .val (.ref b61), .val (.int z67_S0), .val (.ref b61), .unset, .unset, .unset, .unset, .unset, .unset, .unset]) rfl k) ?_
                                show WP p e below _ (T68.setTop (mkF m 482 #[.val (.int p1), .val (.int p2), .val (.int p3), .val (.long q4), .second, .val (.long q5), .second, .val (.int z2_S0), .val (.int z5_S0), .val (.int z8_S0), .val (.int z11_S0), .val (.int z14_S0), .val (.int vi16), .val (.int z18_S0), .val (.int vi20), .val (.int z22_S0), .val (.int vi24), .val (.int vi25), .val (.int z27_S0), .val (.int z30_S0), .val (.int vi32), .val (.int z34_S0), .val (.int vi36), .val (.int vi37), .val (.int z39_S0), .val (.int z42_S0), .val (.int vi44), .val (.int z46_S0), .val (.int vi48), .val (.int z50_S0), .val (.ref sa52), .val (.ref sa53), .val (.ref sa54), .val (.ref sa55), .val (.ref b56), .val (.ref b61), .val (.int z67_S0), .val (.ref b61), .unset, .unset, .unset, .unset, .unset, .unset, .unset] []))
                                refine own_go (fun t_ k => XS.aload X68.here hx rfl (hb hby at_482) rfl rfl k) ?_
                                show WP p e below _ (T68.setTop (mkF m 484 #[.val (.int p1), .val (.int p2), .val (.int p3), .val (.long q4), .second, .val (.long q5), .second, .val (.int z2_S0), .val (.int z5_S0), .val (.int z8_S0), .val (.int z11_S0), .val (.int z14_S0), .val (.int vi16), .val (.int z18_S0), .val (.int vi20), .val (.int z22_S0), .val (.int vi24), .val (.int vi25), .val (.int z27_S0), .val (.int z30_S0), .val (.int vi32), .val (.int z34_S0), .val (.int vi36), .val (.int vi37), .val (.int z39_S0), .val (.int z42_S0), .val (.int vi44), .val (.int z46_S0), .val (.int vi48), .val (.int z50_S0), .val (.ref sa52), .val (.ref sa53), .val (.ref sa54), .val (.ref sa55), .val (.ref b56), .val (.ref b61), .val (.int z67_S0), .val (.ref b61), .unset, .unset, .unset, .unset, .unset, .unset, .unset] [(.ref b56)]))
                                refine own_go (fun t_ k => XS.astore X68.here hx rfl (hb hby at_484) rfl rfl (l' := #[.val (.int p1), .val (.int p2), .val (.int p3), .val (.long q4), .second, .val (.long q5), .second, .val (.int z2_S0), .val (.int z5_S0), .val (.int z8_S0), .val (.int z11_S0), .val (.int z14_S0), .val (.int vi16), .val (.int z18_S0), .val (.int vi20), .val (.int z22_S0), .val (.int vi24), .val (.int vi25), .val (.int z27_S0), .val (.int z30_S0), .val (.int vi32), .val (.int z34_S0), .val (.int vi36), .val (.int vi37), .val (.int z39_S0), .val (.int z42_S0), .val (.int vi44), .val (.int z46_S0), .val (.int vi48), .val (.int z50_S0), .val (.ref sa52), .val (.ref sa53), .val (.ref sa54), .val (.ref sa55), .val (.ref b56), .val (.ref b61), .val (.int z67_S0), .val (.ref b61), .val (.ref b56), .unset, .unset, .unset, .unset, .unset, .unset]) rfl k) ?_
                                show WP p e below _ (T68.setTop (mkF m 486 #[.val (.int p1), .val (.int p2), .val (.int p3), .val (.long q4), .second, .val (.long q5), .second, .val (.int z2_S0), .val (.int z5_S0), .val (.int z8_S0), .val (.int z11_S0), .val (.int z14_S0), .val (.int vi16), .val (.int z18_S0), .val (.int vi20), .val (.int z22_S0), .val (.int vi24), .val (.int vi25), .val (.int z27_S0), .val (.int z30_S0), .val (.int vi32), .val (.int z34_S0), .val (.int vi36), .val (.int vi37), .val (.int z39_S0), .val (.int z42_S0), .val (.int vi44), .val (.int z46_S0), .val (.int vi48), .val (.int z50_S0), .val (.ref sa52), .val (.ref sa53), .val (.ref sa54), .val (.ref sa55), .val (.ref b56), .val (.ref b61), .val (.int z67_S0), .val (.ref b61), .val (.ref b56), .unset, .unset, .unset, .unset, .unset, .unset] []))
                                refine own_go (fun t_ k => XS.aload X68.here hx rfl (hb hby at_486) rfl rfl k) ?_
                                show WP p e below _ (T68.setTop (mkF m 488 #[.val (.int p1), .val (.int p2), .val (.int p3), .val (.long q4), .second, .val (.long q5), .second, .val (.int z2_S0), .val (.int z5_S0), .val (.int z8_S0), .val (.int z11_S0), .val (.int z14_S0), .val (.int vi16), .val (.int z18_S0), .val (.int vi20), .val (.int z22_S0), .val (.int vi24), .val (.int vi25), .val (.int z27_S0), .val (.int z30_S0), .val (.int vi32), .val (.int z34_S0), .val (.int vi36), .val (.int vi37), .val (.int z39_S0), .val (.int z42_S0), .val (.int vi44), .val (.int z46_S0), .val (.int vi48), .val (.int z50_S0), .val (.ref sa52), .val (.ref sa53), .val (.ref sa54), .val (.ref sa55), .val (.ref b56), .val (.ref b61), .val (.int z67_S0), .val (.ref b61), .val (.ref b56), .unset, .unset, .unset, .unset, .unset, .unset] [(.ref sa52)]))
                                refine own_go (fun t_ k => XS.astore X68.here hx rfl (hb hby at_488) rfl rfl (l' := #[.val (.int p1), .val (.int p2), .val (.int p3), .val (.long q4), .second, .val (.long q5), .second, .val (.int z2_S0), .val (.int z5_S0), .val (.int z8_S0), .val (.int z11_S0), .val (.int z14_S0), .val (.int vi16), .val (.int z18_S0), .val (.int vi20), .val (.int z22_S0), .val (.int vi24), .val (.int vi25), .val (.int z27_S0), .val (.int z30_S0), .val (.int vi32), .val (.int z34_S0), .val (.int vi36), .val (.int vi37), .val (.int z39_S0), .val (.int z42_S0), .val (.int vi44), .val (.int z46_S0), .val (.int vi48), .val (.int z50_S0), .val (.ref sa52), .val (.ref sa53), .val (.ref sa54), .val (.ref sa55), .val (.ref b56), .val (.ref b61), .val (.int z67_S0), .val (.ref b61), .val (.ref b56), .val (.ref sa52), .unset, .unset, .unset, .unset, .unset]) rfl k) ?_
                                show WP p e below _ (T68.setTop (mkF m 490 #[.val (.int p1), .val (.int p2), .val (.int p3), .val (.long q4), .second, .val (.long q5), .second, .val (.int z2_S0), .val (.int z5_S0), .val (.int z8_S0), .val (.int z11_S0), .val (.int z14_S0), .val (.int vi16), .val (.int z18_S0), .val (.int vi20), .val (.int z22_S0), .val (.int vi24), .val (.int vi25), .val (.int z27_S0), .val (.int z30_S0), .val (.int vi32), .val (.int z34_S0), .val (.int vi36), .val (.int vi37), .val (.int z39_S0), .val (.int z42_S0), .val (.int vi44), .val (.int z46_S0), .val (.int vi48), .val (.int z50_S0), .val (.ref sa52), .val (.ref sa53), .val (.ref sa54), .val (.ref sa55), .val (.ref b56), .val (.ref b61), .val (.int z67_S0), .val (.ref b61), .val (.ref b56), .val (.ref sa52), .unset, .unset, .unset, .unset, .unset] []))
                                refine own_go (fun t_ k => XS.aload X68.here hx rfl (hb hby at_490) rfl rfl k) ?_
                                show WP p e below _ (T68.setTop (mkF m 492 #[.val (.int p1), .val (.int p2), .val (.int p3), .val (.long q4), .second, .val (.long q5), .second, .val (.int z2_S0), .val (.int z5_S0), .val (.int z8_S0), .val (.int z11_S0), .val (.int z14_S0), .val (.int vi16), .val (.int z18_S0), .val (.int vi20), .val (.int z22_S0), .val (.int vi24), .val (.int vi25), .val (.int z27_S0), .val (.int z30_S0), .val (.int vi32), .val (.int z34_S0), .val (.int vi36), .val (.int vi37), .val (.int z39_S0), .val (.int z42_S0), .val (.int vi44), .val (.int z46_S0), .val (.int vi48), .val (.int z50_S0), .val (.ref sa52), .val (.ref sa53), .val (.ref sa54), .val (.ref sa55), .val (.ref b56), .val (.ref b61), .val (.int z67_S0), .val (.ref b61), .val (.ref b56), .val (.ref sa52), .unset, .unset, .unset, .unset, .unset] [(.ref b56)]))
                                refine own_go (fun t_ k => XS.aload X68.here hx rfl (hb hby at_492) rfl rfl k) ?_
                                show WP p e below _ (T68.setTop (mkF m 494 #[.val (.int p1), .val (.int p2), .val (.int p3), .val (.long q4), .second, .val (.long q5), .second, .val (.int z2_S0), .val (.int z5_S0), .val (.int z8_S0), .val (.int z11_S0), .val (.int z14_S0), .val (.int vi16), .val (.int z18_S0), .val (.int vi20), .val (.int z22_S0), .val (.int vi24), .val (.int vi25), .val (.int z27_S0), .val (.int z30_S0), .val (.int vi32), .val (.int z34_S0), .val (.int vi36), .val (.int vi37), .val (.int z39_S0), .val (.int z42_S0), .val (.int vi44), .val (.int z46_S0), .val (.int vi48), .val (.int z50_S0), .val (.ref sa52), .val (.ref sa53), .val (.ref sa54), .val (.ref sa55), .val (.ref b56), .val (.ref b61), .val (.int z67_S0), .val (.ref b61), .val (.ref b56), .val (.ref sa52), .unset, .unset, .unset, .unset, .unset] [(.ref b61), (.ref b56)]))
                                obtain ⟨cq69, kq69, q69a, q69b, q69c⟩ := isOf (T := T68) hZ e68 ((F60c0.ext E61).keep K65c)
                                obtain ⟨_, T69, Lc69, X69, hQ69, st69⟩ := own_un X68 0 0 (X68.virtualBack hx (y := (⟨"com/example/covenant_atlas/covenantatlas/model/OutlineEntry", "equals", "(Ljava/lang/Object;)Z"⟩ : MethodName)) (z := (⟨"com/example/covenant_atlas/covenantatlas/model/OutlineEntry", "equals", "(Ljava/lang/Object;)Z"⟩ : MethodName)) hown (mvT hZ (hw _ (List.mem_of_getElem? (i := 59) rfl))) (mvT hZ (hw _ (List.mem_of_getElem? (i := 60) rfl))) (notFace_of_selects (args := #[]) (mvT hZ (hw _ (List.mem_of_getElem? (i := 62) rfl)))) (mvT hZ (hw _ (List.mem_of_getElem? (i := 62) rfl))) (mvT hZ (hw _ (List.mem_of_getElem? (i := 61) rfl))) (by decide) (backOf (W := 0) (rm9 l Z a0 hw [] b56 b61 vo58 sa52 sa54 vo63 sa53 sa55 vi44 vi48 z46_S0 z50_S0 sb52 sk52 sn52 sx52 sb53 sk53 sn53 sx53 sb54 sk54 sn54 sx54 sb55 sk55 sn55 sx55 cs T65.heap n0 ((F60c0.ext E61).keep K65c) ((F60c1.ext E61).keep K65c (ninS ne_b56_b61 nin0)) ((F60c2.ext E61).keep K65c (ninS ne_b56_b61 nin0)) ((F60c3.ext E61).keep K65c (ninS ne_b56_b61 nin0)) ((F60c4.ext E61).keep K65c (ninS ne_b56_b61 nin0)) ((F60c5.ext E61).keep K65c (ninS ne_b56_b61 nin0)) F65c0 F65c1 F65c2 F65c3 F65c4 F65c5 (((((((E52c.keep K53c).keep K54c).keep K55c).ext E56).keep K60c).ext E61).keep K65c) (((((((Fc52c.keep K53c nin0).keep K54c nin0).keep K55c nin0).ext E56).keep K60c (ninS ne_sa52_b56 nin0)).ext E61).keep K65c (ninS ne_sa52_b61 nin0)) (((((((Fv52c.keep K53c nin0).keep K54c nin0).keep K55c nin0).ext E56).keep K60c (ninS ne_sa52_b56 nin0)).ext E61).keep K65c (ninS ne_sa52_b61 nin0)) (((((((V52c.keep K53c nin0).keep K54c nin0).keep K55c nin0).ext E56).keep K60c (ninS ne_sb52_b56 nin0)).ext E61).keep K65c (ninS ne_sb52_b61 nin0)) ((((((E53c.keep K54c).keep K55c).ext E56).keep K60c).ext E61).keep K65c) ((((((Fc53c.keep K54c nin0).keep K55c nin0).ext E56).keep K60c (ninS ne_sa53_b56 nin0)).ext E61).keep K65c (ninS ne_sa53_b61 nin0)) ((((((Fv53c.keep K54c nin0).keep K55c nin0).ext E56).keep K60c (ninS ne_sa53_b56 nin0)).ext E61).keep K65c (ninS ne_sa53_b61 nin0)) ((((((V53c.keep K54c nin0).keep K55c nin0).ext E56).keep K60c (ninS ne_sb53_b56 nin0)).ext E61).keep K65c (ninS ne_sb53_b61 nin0)) (((((E54c.keep K55c).ext E56).keep K60c).ext E61).keep K65c) (((((Fc54c.keep K55c nin0).ext E56).keep K60c (ninS ne_sa54_b56 nin0)).ext E61).keep K65c (ninS ne_sa54_b61 nin0)) (((((Fv54c.keep K55c nin0).ext E56).keep K60c (ninS ne_sa54_b56 nin0)).ext E61).keep K65c (ninS ne_sa54_b61 nin0)) (((((V54c.keep K55c nin0).ext E56).keep K60c (ninS ne_sb54_b56 nin0)).ext E61).keep K65c (ninS ne_sb54_b61 nin0)) ((((E55c.ext E56).keep K60c).ext E61).keep K65c) ((((Fc55c.ext E56).keep K60c (ninS ne_sa55_b56 nin0)).ext E61).keep K65c (ninS ne_sa55_b61 nin0)) ((((Fv55c.ext E56).keep K60c (ninS ne_sa55_b56 nin0)).ext E61).keep K65c (ninS ne_sa55_b61 nin0)) ((((V55c.ext E56).keep K60c (ninS ne_sb55_b56 nin0)).ext E61).keep K65c (ninS ne_sb55_b61 nin0)) Sk65_0 ne_sa52_sa53 ne_sa54_sa55 hcs (SX.sl SX52) (SX.sl SX53) (SX.sl SX54) (SX.sl SX55)) hZ (hw _ (List.mem_of_getElem? (i := 63) rfl)) (hw _ (List.mem_of_getElem? (i := 28) rfl)) (by decide) (by decide)) q69a q69c (g := (mkF m 494 #[.val (.int p1), .val (.int p2), .val (.int p3), .val (.long q4), .second, .val (.long q5), .second, .val (.int z2_S0), .val (.int z5_S0), .val (.int z8_S0), .val (.int z11_S0), .val (.int z14_S0), .val (.int vi16), .val (.int z18_S0), .val (.int vi20), .val (.int z22_S0), .val (.int vi24), .val (.int vi25), .val (.int z27_S0), .val (.int z30_S0), .val (.int vi32), .val (.int z34_S0), .val (.int vi36), .val (.int vi37), .val (.int z39_S0), .val (.int z42_S0), .val (.int vi44), .val (.int z46_S0), .val (.int vi48), .val (.int z50_S0), .val (.ref sa52), .val (.ref sa53), .val (.ref sa54), .val (.ref sa55), .val (.ref b56), .val (.ref b61), .val (.int z67_S0), .val (.ref b61), .val (.ref b56), .val (.ref sa52), .unset, .unset, .unset, .unset, .unset] [(.ref b61), (.ref b56)])) rfl (by rw [hml]; rfl) (Steps.refl _) (argsL := [(.ref b61)]) (rest := []) (lenOf pd_7 rfl) rfl (by show 2 * 0 + _ ≤ _; exact Nat.le_of_eq rfl) (hb hby at_494) (fun _ _ => ⟨rfl, e68, (by decide : 18 + 0 ≤ _), (by decide : 42 + 0 ≤ _)⟩))
                                dsimp only [Pt.U] at st69
                                have er69 : T69.heap = T69.heap := rfl
                                obtain ⟨re69, rfl, N69q, e69, EQ69⟩ := hQ69
                                have N69 := Fr.app N68 N69q
                                replace X69 : Stand p l e room_1 (s.setVm T55.vm) m _ below meth c T69 _ 18 42 := X69
                                refine own_go (fun t_ k => st69.trans k) ?_
                                show WP p e below _ (T69.setTop (mkF m 497 #[.val (.int p1), .val (.int p2), .val (.int p3), .val (.long q4), .second, .val (.long q5), .second, .val (.int z2_S0), .val (.int z5_S0), .val (.int z8_S0), .val (.int z11_S0), .val (.int z14_S0), .val (.int vi16), .val (.int z18_S0), .val (.int vi20), .val (.int z22_S0), .val (.int vi24), .val (.int vi25), .val (.int z27_S0), .val (.int z30_S0), .val (.int vi32), .val (.int z34_S0), .val (.int vi36), .val (.int vi37), .val (.int z39_S0), .val (.int z42_S0), .val (.int vi44), .val (.int z46_S0), .val (.int vi48), .val (.int z50_S0), .val (.ref sa52), .val (.ref sa53), .val (.ref sa54), .val (.ref sa55), .val (.ref b56), .val (.ref b61), .val (.int z67_S0), .val (.ref b61), .val (.ref b56), .val (.ref sa52), .unset, .unset, .unset, .unset, .unset] [(.int re69)]))
                                refine own_go (fun t_ k => XS.istore X69.here hx rfl (hb hby at_497) rfl (l' := #[.val (.int p1), .val (.int p2), .val (.int p3), .val (.long q4), .second, .val (.long q5), .second, .val (.int z2_S0), .val (.int z5_S0), .val (.int z8_S0), .val (.int z11_S0), .val (.int z14_S0), .val (.int vi16), .val (.int z18_S0), .val (.int vi20), .val (.int z22_S0), .val (.int vi24), .val (.int vi25), .val (.int z27_S0), .val (.int z30_S0), .val (.int vi32), .val (.int z34_S0), .val (.int vi36), .val (.int vi37), .val (.int z39_S0), .val (.int z42_S0), .val (.int vi44), .val (.int z46_S0), .val (.int vi48), .val (.int z50_S0), .val (.ref sa52), .val (.ref sa53), .val (.ref sa54), .val (.ref sa55), .val (.ref b56), .val (.ref b61), .val (.int z67_S0), .val (.ref b61), .val (.ref b56), .val (.ref sa52), .val (.int re69), .unset, .unset, .unset, .unset]) rfl k) ?_
                                show WP p e below _ (T69.setTop (mkF m 499 #[.val (.int p1), .val (.int p2), .val (.int p3), .val (.long q4), .second, .val (.long q5), .second, .val (.int z2_S0), .val (.int z5_S0), .val (.int z8_S0), .val (.int z11_S0), .val (.int z14_S0), .val (.int vi16), .val (.int z18_S0), .val (.int vi20), .val (.int z22_S0), .val (.int vi24), .val (.int vi25), .val (.int z27_S0), .val (.int z30_S0), .val (.int vi32), .val (.int z34_S0), .val (.int vi36), .val (.int vi37), .val (.int z39_S0), .val (.int z42_S0), .val (.int vi44), .val (.int z46_S0), .val (.int vi48), .val (.int z50_S0), .val (.ref sa52), .val (.ref sa53), .val (.ref sa54), .val (.ref sa55), .val (.ref b56), .val (.ref b61), .val (.int z67_S0), .val (.ref b61), .val (.ref b56), .val (.ref sa52), .val (.int re69), .unset, .unset, .unset, .unset] []))
                                refine own_go (fun t_ k => XS.aload X69.here hx rfl (hb hby at_499) rfl rfl k) ?_
                                show WP p e below _ (T69.setTop (mkF m 501 #[.val (.int p1), .val (.int p2), .val (.int p3), .val (.long q4), .second, .val (.long q5), .second, .val (.int z2_S0), .val (.int z5_S0), .val (.int z8_S0), .val (.int z11_S0), .val (.int z14_S0), .val (.int vi16), .val (.int z18_S0), .val (.int vi20), .val (.int z22_S0), .val (.int vi24), .val (.int vi25), .val (.int z27_S0), .val (.int z30_S0), .val (.int vi32), .val (.int z34_S0), .val (.int vi36), .val (.int vi37), .val (.int z39_S0), .val (.int z42_S0), .val (.int vi44), .val (.int z46_S0), .val (.int vi48), .val (.int z50_S0), .val (.ref sa52), .val (.ref sa53), .val (.ref sa54), .val (.ref sa55), .val (.ref b56), .val (.ref b61), .val (.int z67_S0), .val (.ref b61), .val (.ref b56), .val (.ref sa52), .val (.int re69), .unset, .unset, .unset, .unset] [(.ref b61)]))
                                refine own_go (fun t_ k => XS.aload X69.here hx rfl (hb hby at_501) rfl rfl k) ?_
                                show WP p e below _ (T69.setTop (mkF m 503 #[.val (.int p1), .val (.int p2), .val (.int p3), .val (.long q4), .second, .val (.long q5), .second, .val (.int z2_S0), .val (.int z5_S0), .val (.int z8_S0), .val (.int z11_S0), .val (.int z14_S0), .val (.int vi16), .val (.int z18_S0), .val (.int vi20), .val (.int z22_S0), .val (.int vi24), .val (.int vi25), .val (.int z27_S0), .val (.int z30_S0), .val (.int vi32), .val (.int z34_S0), .val (.int vi36), .val (.int vi37), .val (.int z39_S0), .val (.int z42_S0), .val (.int vi44), .val (.int z46_S0), .val (.int vi48), .val (.int z50_S0), .val (.ref sa52), .val (.ref sa53), .val (.ref sa54), .val (.ref sa55), .val (.ref b56), .val (.ref b61), .val (.int z67_S0), .val (.ref b61), .val (.ref b56), .val (.ref sa52), .val (.int re69), .unset, .unset, .unset, .unset] [(.ref b56), (.ref b61)]))
                                obtain ⟨cq70, kq70, q70a, q70b, q70c⟩ := isOf (T := T69) hZ e69 F65c0
                                obtain ⟨_, T70, Lc70, X70, hQ70, st70⟩ := own_un X69 0 0 (X69.virtualBack hx (y := (⟨"com/example/covenant_atlas/covenantatlas/model/OutlineEntry", "equals", "(Ljava/lang/Object;)Z"⟩ : MethodName)) (z := (⟨"com/example/covenant_atlas/covenantatlas/model/OutlineEntry", "equals", "(Ljava/lang/Object;)Z"⟩ : MethodName)) hown (mvT hZ (hw _ (List.mem_of_getElem? (i := 59) rfl))) (mvT hZ (hw _ (List.mem_of_getElem? (i := 60) rfl))) (notFace_of_selects (args := #[]) (mvT hZ (hw _ (List.mem_of_getElem? (i := 62) rfl)))) (mvT hZ (hw _ (List.mem_of_getElem? (i := 62) rfl))) (mvT hZ (hw _ (List.mem_of_getElem? (i := 61) rfl))) (by decide) (backOf (W := 0) (rm9 l Z a0 hw [] b61 b56 vo63 sa53 sa55 vo58 sa52 sa54 z46_S0 z50_S0 vi44 vi48 sb53 sk53 sn53 sx53 sb52 sk52 sn52 sx52 sb55 sk55 sn55 sx55 sb54 sk54 sn54 sx54 cs T65.heap n0 F65c0 F65c1 F65c2 F65c3 F65c4 F65c5 ((F60c0.ext E61).keep K65c) ((F60c1.ext E61).keep K65c (ninS ne_b56_b61 nin0)) ((F60c2.ext E61).keep K65c (ninS ne_b56_b61 nin0)) ((F60c3.ext E61).keep K65c (ninS ne_b56_b61 nin0)) ((F60c4.ext E61).keep K65c (ninS ne_b56_b61 nin0)) ((F60c5.ext E61).keep K65c (ninS ne_b56_b61 nin0)) ((((((E53c.keep K54c).keep K55c).ext E56).keep K60c).ext E61).keep K65c) ((((((Fc53c.keep K54c nin0).keep K55c nin0).ext E56).keep K60c (ninS ne_sa53_b56 nin0)).ext E61).keep K65c (ninS ne_sa53_b61 nin0)) ((((((Fv53c.keep K54c nin0).keep K55c nin0).ext E56).keep K60c (ninS ne_sa53_b56 nin0)).ext E61).keep K65c (ninS ne_sa53_b61 nin0)) ((((((V53c.keep K54c nin0).keep K55c nin0).ext E56).keep K60c (ninS ne_sb53_b56 nin0)).ext E61).keep K65c (ninS ne_sb53_b61 nin0)) (((((((E52c.keep K53c).keep K54c).keep K55c).ext E56).keep K60c).ext E61).keep K65c) (((((((Fc52c.keep K53c nin0).keep K54c nin0).keep K55c nin0).ext E56).keep K60c (ninS ne_sa52_b56 nin0)).ext E61).keep K65c (ninS ne_sa52_b61 nin0)) (((((((Fv52c.keep K53c nin0).keep K54c nin0).keep K55c nin0).ext E56).keep K60c (ninS ne_sa52_b56 nin0)).ext E61).keep K65c (ninS ne_sa52_b61 nin0)) (((((((V52c.keep K53c nin0).keep K54c nin0).keep K55c nin0).ext E56).keep K60c (ninS ne_sb52_b56 nin0)).ext E61).keep K65c (ninS ne_sb52_b61 nin0)) ((((E55c.ext E56).keep K60c).ext E61).keep K65c) ((((Fc55c.ext E56).keep K60c (ninS ne_sa55_b56 nin0)).ext E61).keep K65c (ninS ne_sa55_b61 nin0)) ((((Fv55c.ext E56).keep K60c (ninS ne_sa55_b56 nin0)).ext E61).keep K65c (ninS ne_sa55_b61 nin0)) ((((V55c.ext E56).keep K60c (ninS ne_sb55_b56 nin0)).ext E61).keep K65c (ninS ne_sb55_b61 nin0)) (((((E54c.keep K55c).ext E56).keep K60c).ext E61).keep K65c) (((((Fc54c.keep K55c nin0).ext E56).keep K60c (ninS ne_sa54_b56 nin0)).ext E61).keep K65c (ninS ne_sa54_b61 nin0)) (((((Fv54c.keep K55c nin0).ext E56).keep K60c (ninS ne_sa54_b56 nin0)).ext E61).keep K65c (ninS ne_sa54_b61 nin0)) (((((V54c.keep K55c nin0).ext E56).keep K60c (ninS ne_sb54_b56 nin0)).ext E61).keep K65c (ninS ne_sb54_b61 nin0)) Sk65_0 (Ne.symm ne_sa52_sa53) (Ne.symm ne_sa54_sa55) hcs (SX.sl SX53) (SX.sl SX52) (SX.sl SX55) (SX.sl SX54)) hZ (hw _ (List.mem_of_getElem? (i := 63) rfl)) (hw _ (List.mem_of_getElem? (i := 28) rfl)) (by decide) (by decide)) q70a q70c (g := (mkF m 503 #[.val (.int p1), .val (.int p2), .val (.int p3), .val (.long q4), .second, .val (.long q5), .second, .val (.int z2_S0), .val (.int z5_S0), .val (.int z8_S0), .val (.int z11_S0), .val (.int z14_S0), .val (.int vi16), .val (.int z18_S0), .val (.int vi20), .val (.int z22_S0), .val (.int vi24), .val (.int vi25), .val (.int z27_S0), .val (.int z30_S0), .val (.int vi32), .val (.int z34_S0), .val (.int vi36), .val (.int vi37), .val (.int z39_S0), .val (.int z42_S0), .val (.int vi44), .val (.int z46_S0), .val (.int vi48), .val (.int z50_S0), .val (.ref sa52), .val (.ref sa53), .val (.ref sa54), .val (.ref sa55), .val (.ref b56), .val (.ref b61), .val (.int z67_S0), .val (.ref b61), .val (.ref b56), .val (.ref sa52), .val (.int re69), .unset, .unset, .unset, .unset] [(.ref b56), (.ref b61)])) rfl (by rw [hml]; rfl) (Steps.refl _) (argsL := [(.ref b56)]) (rest := []) (lenOf pd_7 rfl) rfl (by show 2 * 0 + _ ≤ _; exact Nat.le_of_eq rfl) (hb hby at_503) (fun _ _ => ⟨rfl, e69, (by decide : 18 + 0 ≤ _), (by decide : 42 + 0 ≤ _)⟩))
                                dsimp only [Pt.U] at st70
                                have er70 : T70.heap = T70.heap := rfl
                                obtain ⟨re70, rfl, N70q, e70, EQ70⟩ := hQ70
                                have N70 := Fr.app N69 N70q
                                replace X70 : Stand p l e room_1 (s.setVm T55.vm) m _ below meth c T70 _ 18 42 := X70
                                refine own_go (fun t_ k => st70.trans k) ?_
                                show WP p e below _ (T70.setTop (mkF m 506 #[.val (.int p1), .val (.int p2), .val (.int p3), .val (.long q4), .second, .val (.long q5), .second, .val (.int z2_S0), .val (.int z5_S0), .val (.int z8_S0), .val (.int z11_S0), .val (.int z14_S0), .val (.int vi16), .val (.int z18_S0), .val (.int vi20), .val (.int z22_S0), .val (.int vi24), .val (.int vi25), .val (.int z27_S0), .val (.int z30_S0), .val (.int vi32), .val (.int z34_S0), .val (.int vi36), .val (.int vi37), .val (.int z39_S0), .val (.int z42_S0), .val (.int vi44), .val (.int z46_S0), .val (.int vi48), .val (.int z50_S0), .val (.ref sa52), .val (.ref sa53), .val (.ref sa54), .val (.ref sa55), .val (.ref b56), .val (.ref b61), .val (.int z67_S0), .val (.ref b61), .val (.ref b56), .val (.ref sa52), .val (.int re69), .unset, .unset, .unset, .unset] [(.int re70)]))
                                refine own_go (fun t_ k => XS.istore X70.here hx rfl (hb hby at_506) rfl (l' := #[.val (.int p1), .val (.int p2), .val (.int p3), .val (.long q4), .second, .val (.long q5), .second, .val (.int z2_S0), .val (.int z5_S0), .val (.int z8_S0), .val (.int z11_S0), .val (.int z14_S0), .val (.int vi16), .val (.int z18_S0), .val (.int vi20), .val (.int z22_S0), .val (.int vi24), .val (.int vi25), .val (.int z27_S0), .val (.int z30_S0), .val (.int vi32), .val (.int z34_S0), .val (.int vi36), .val (.int vi37), .val (.int z39_S0), .val (.int z42_S0), .val (.int vi44), .val (.int z46_S0), .val (.int vi48), .val (.int z50_S0), .val (.ref sa52), .val (.ref sa53), .val (.ref sa54), .val (.ref sa55), .val (.ref b56), .val (.ref b61), .val (.int z67_S0), .val (.ref b61), .val (.ref b56), .val (.ref sa52), .val (.int re69), .val (.int re70), .unset, .unset, .unset]) rfl k) ?_
                                show WP p e below _ (T70.setTop (mkF m 508 #[.val (.int p1), .val (.int p2), .val (.int p3), .val (.long q4), .second, .val (.long q5), .second, .val (.int z2_S0), .val (.int z5_S0), .val (.int z8_S0), .val (.int z11_S0), .val (.int z14_S0), .val (.int vi16), .val (.int z18_S0), .val (.int vi20), .val (.int z22_S0), .val (.int vi24), .val (.int vi25), .val (.int z27_S0), .val (.int z30_S0), .val (.int vi32), .val (.int z34_S0), .val (.int vi36), .val (.int vi37), .val (.int z39_S0), .val (.int z42_S0), .val (.int vi44), .val (.int z46_S0), .val (.int vi48), .val (.int z50_S0), .val (.ref sa52), .val (.ref sa53), .val (.ref sa54), .val (.ref sa55), .val (.ref b56), .val (.ref b61), .val (.int z67_S0), .val (.ref b61), .val (.ref b56), .val (.ref sa52), .val (.int re69), .val (.int re70), .unset, .unset, .unset] []))
                                refine own_go (fun t_ k => XS.aload X70.here hx rfl (hb hby at_508) rfl rfl k) ?_
                                show WP p e below _ (T70.setTop (mkF m 510 #[.val (.int p1), .val (.int p2), .val (.int p3), .val (.long q4), .second, .val (.long q5), .second, .val (.int z2_S0), .val (.int z5_S0), .val (.int z8_S0), .val (.int z11_S0), .val (.int z14_S0), .val (.int vi16), .val (.int z18_S0), .val (.int vi20), .val (.int z22_S0), .val (.int vi24), .val (.int vi25), .val (.int z27_S0), .val (.int z30_S0), .val (.int vi32), .val (.int z34_S0), .val (.int vi36), .val (.int vi37), .val (.int z39_S0), .val (.int z42_S0), .val (.int vi44), .val (.int z46_S0), .val (.int vi48), .val (.int z50_S0), .val (.ref sa52), .val (.ref sa53), .val (.ref sa54), .val (.ref sa55), .val (.ref b56), .val (.ref b61), .val (.int z67_S0), .val (.ref b61), .val (.ref b56), .val (.ref sa52), .val (.int re69), .val (.int re70), .unset, .unset, .unset] [(.ref b56)]))
                                refine own_go (fun t_ k => XS.aload X70.here hx rfl (hb hby at_510) rfl rfl k) ?_
                                show WP p e below _ (T70.setTop (mkF m 512 #[.val (.int p1), .val (.int p2), .val (.int p3), .val (.long q4), .second, .val (.long q5), .second, .val (.int z2_S0), .val (.int z5_S0), .val (.int z8_S0), .val (.int z11_S0), .val (.int z14_S0), .val (.int vi16), .val (.int z18_S0), .val (.int vi20), .val (.int z22_S0), .val (.int vi24), .val (.int vi25), .val (.int z27_S0), .val (.int z30_S0), .val (.int vi32), .val (.int z34_S0), .val (.int vi36), .val (.int vi37), .val (.int z39_S0), .val (.int z42_S0), .val (.int vi44), .val (.int z46_S0), .val (.int vi48), .val (.int z50_S0), .val (.ref sa52), .val (.ref sa53), .val (.ref sa54), .val (.ref sa55), .val (.ref b56), .val (.ref b61), .val (.int z67_S0), .val (.ref b61), .val (.ref b56), .val (.ref sa52), .val (.int re69), .val (.int re70), .unset, .unset, .unset] [(.ref b56), (.ref b56)]))
                                obtain ⟨cq71, kq71, q71a, q71b, q71c⟩ := isOf (T := T70) hZ e70 ((F60c0.ext E61).keep K65c)
                                obtain ⟨_, T71, Lc71, X71, hQ71, st71⟩ := own_un X70 0 0 (X70.virtualBack hx (y := (⟨"com/example/covenant_atlas/covenantatlas/model/OutlineEntry", "equals", "(Ljava/lang/Object;)Z"⟩ : MethodName)) (z := (⟨"com/example/covenant_atlas/covenantatlas/model/OutlineEntry", "equals", "(Ljava/lang/Object;)Z"⟩ : MethodName)) hown (mvT hZ (hw _ (List.mem_of_getElem? (i := 59) rfl))) (mvT hZ (hw _ (List.mem_of_getElem? (i := 60) rfl))) (notFace_of_selects (args := #[]) (mvT hZ (hw _ (List.mem_of_getElem? (i := 62) rfl)))) (mvT hZ (hw _ (List.mem_of_getElem? (i := 62) rfl))) (mvT hZ (hw _ (List.mem_of_getElem? (i := 61) rfl))) (by decide) (backOf (W := 0) (rm9s l Z a0 hw [] b56 vo58 sa52 sa54 vi44 vi48 T65.heap n0 ((F60c0.ext E61).keep K65c) ((F60c1.ext E61).keep K65c (ninS ne_b56_b61 nin0)) ((F60c2.ext E61).keep K65c (ninS ne_b56_b61 nin0)) ((F60c3.ext E61).keep K65c (ninS ne_b56_b61 nin0)) ((F60c4.ext E61).keep K65c (ninS ne_b56_b61 nin0)) ((F60c5.ext E61).keep K65c (ninS ne_b56_b61 nin0)) (((((((E52c.keep K53c).keep K54c).keep K55c).ext E56).keep K60c).ext E61).keep K65c) (((((E54c.keep K55c).ext E56).keep K60c).ext E61).keep K65c)) hZ (hw _ (List.mem_of_getElem? (i := 63) rfl)) (hw _ (List.mem_of_getElem? (i := 28) rfl)) (by decide) (by decide)) q71a q71c (g := (mkF m 512 #[.val (.int p1), .val (.int p2), .val (.int p3), .val (.long q4), .second, .val (.long q5), .second, .val (.int z2_S0), .val (.int z5_S0), .val (.int z8_S0), .val (.int z11_S0), .val (.int z14_S0), .val (.int vi16), .val (.int z18_S0), .val (.int vi20), .val (.int z22_S0), .val (.int vi24), .val (.int vi25), .val (.int z27_S0), .val (.int z30_S0), .val (.int vi32), .val (.int z34_S0), .val (.int vi36), .val (.int vi37), .val (.int z39_S0), .val (.int z42_S0), .val (.int vi44), .val (.int z46_S0), .val (.int vi48), .val (.int z50_S0), .val (.ref sa52), .val (.ref sa53), .val (.ref sa54), .val (.ref sa55), .val (.ref b56), .val (.ref b61), .val (.int z67_S0), .val (.ref b61), .val (.ref b56), .val (.ref sa52), .val (.int re69), .val (.int re70), .unset, .unset, .unset] [(.ref b56), (.ref b56)])) rfl (by rw [hml]; rfl) (Steps.refl _) (argsL := [(.ref b56)]) (rest := []) (lenOf pd_7 rfl) rfl (by show 2 * 0 + _ ≤ _; exact Nat.le_of_eq rfl) (hb hby at_512) (fun _ _ => ⟨rfl, e70, (by decide : 18 + 0 ≤ _), (by decide : 42 + 0 ≤ _)⟩))
                                dsimp only [Pt.U] at st71
                                have er71 : T71.heap = T71.heap := rfl
                                obtain ⟨rfl, N71q, e71⟩ := hQ71
                                have N71 := Fr.app N70 N71q
                                replace X71 : Stand p l e room_1 (s.setVm T55.vm) m _ below meth c T71 _ 18 42 := X71
                                refine own_go (fun t_ k => st71.trans k) ?_
                                show WP p e below _ (T71.setTop (mkF m 515 #[.val (.int p1), .val (.int p2), .val (.int p3), .val (.long q4), .second, .val (.long q5), .second, .val (.int z2_S0), .val (.int z5_S0), .val (.int z8_S0), .val (.int z11_S0), .val (.int z14_S0), .val (.int vi16), .val (.int z18_S0), .val (.int vi20), .val (.int z22_S0), .val (.int vi24), .val (.int vi25), .val (.int z27_S0), .val (.int z30_S0), .val (.int vi32), .val (.int z34_S0), .val (.int vi36), .val (.int vi37), .val (.int z39_S0), .val (.int z42_S0), .val (.int vi44), .val (.int z46_S0), .val (.int vi48), .val (.int z50_S0), .val (.ref sa52), .val (.ref sa53), .val (.ref sa54), .val (.ref sa55), .val (.ref b56), .val (.ref b61), .val (.int z67_S0), .val (.ref b61), .val (.ref b56), .val (.ref sa52), .val (.int re69), .val (.int re70), .unset, .unset, .unset] [(.int (1 : Int32))]))
                                refine own_go (fun t_ k => XS.istore X71.here hx rfl (hb hby at_515) rfl (l' := #[.val (.int p1), .val (.int p2), .val (.int p3), .val (.long q4), .second, .val (.long q5), .second, .val (.int z2_S0), .val (.int z5_S0), .val (.int z8_S0), .val (.int z11_S0), .val (.int z14_S0), .val (.int vi16), .val (.int z18_S0), .val (.int vi20), .val (.int z22_S0), .val (.int vi24), .val (.int vi25), .val (.int z27_S0), .val (.int z30_S0), .val (.int vi32), .val (.int z34_S0), .val (.int vi36), .val (.int vi37), .val (.int z39_S0), .val (.int z42_S0), .val (.int vi44), .val (.int z46_S0), .val (.int vi48), .val (.int z50_S0), .val (.ref sa52), .val (.ref sa53), .val (.ref sa54), .val (.ref sa55), .val (.ref b56), .val (.ref b61), .val (.int z67_S0), .val (.ref b61), .val (.ref b56), .val (.ref sa52), .val (.int re69), .val (.int re70), .val (.int (1 : Int32)), .unset, .unset]) rfl k) ?_
                                show WP p e below _ (T71.setTop (mkF m 517 #[.val (.int p1), .val (.int p2), .val (.int p3), .val (.long q4), .second, .val (.long q5), .second, .val (.int z2_S0), .val (.int z5_S0), .val (.int z8_S0), .val (.int z11_S0), .val (.int z14_S0), .val (.int vi16), .val (.int z18_S0), .val (.int vi20), .val (.int z22_S0), .val (.int vi24), .val (.int vi25), .val (.int z27_S0), .val (.int z30_S0), .val (.int vi32), .val (.int z34_S0), .val (.int vi36), .val (.int vi37), .val (.int z39_S0), .val (.int z42_S0), .val (.int vi44), .val (.int z46_S0), .val (.int vi48), .val (.int z50_S0), .val (.ref sa52), .val (.ref sa53), .val (.ref sa54), .val (.ref sa55), .val (.ref b56), .val (.ref b61), .val (.int z67_S0), .val (.ref b61), .val (.ref b56), .val (.ref sa52), .val (.int re69), .val (.int re70), .val (.int (1 : Int32)), .unset, .unset] []))
                                refine own_go (fun t_ k => XS.aload X71.here hx rfl (hb hby at_517) rfl rfl k) ?_
                                show WP p e below _ (T71.setTop (mkF m 519 #[.val (.int p1), .val (.int p2), .val (.int p3), .val (.long q4), .second, .val (.long q5), .second, .val (.int z2_S0), .val (.int z5_S0), .val (.int z8_S0), .val (.int z11_S0), .val (.int z14_S0), .val (.int vi16), .val (.int z18_S0), .val (.int vi20), .val (.int z22_S0), .val (.int vi24), .val (.int vi25), .val (.int z27_S0), .val (.int z30_S0), .val (.int vi32), .val (.int z34_S0), .val (.int vi36), .val (.int vi37), .val (.int z39_S0), .val (.int z42_S0), .val (.int vi44), .val (.int z46_S0), .val (.int vi48), .val (.int z50_S0), .val (.ref sa52), .val (.ref sa53), .val (.ref sa54), .val (.ref sa55), .val (.ref b56), .val (.ref b61), .val (.int z67_S0), .val (.ref b61), .val (.ref b56), .val (.ref sa52), .val (.int re69), .val (.int re70), .val (.int (1 : Int32)), .unset, .unset] [(.ref b56)]))
                                refine own_go (fun t_ k => XS.aconstNull X71.here hx rfl (hb hby at_519) k) ?_
                                show WP p e below _ (T71.setTop (mkF m 520 #[.val (.int p1), .val (.int p2), .val (.int p3), .val (.long q4), .second, .val (.long q5), .second, .val (.int z2_S0), .val (.int z5_S0), .val (.int z8_S0), .val (.int z11_S0), .val (.int z14_S0), .val (.int vi16), .val (.int z18_S0), .val (.int vi20), .val (.int z22_S0), .val (.int vi24), .val (.int vi25), .val (.int z27_S0), .val (.int z30_S0), .val (.int vi32), .val (.int z34_S0), .val (.int vi36), .val (.int vi37), .val (.int z39_S0), .val (.int z42_S0), .val (.int vi44), .val (.int z46_S0), .val (.int vi48), .val (.int z50_S0), .val (.ref sa52), .val (.ref sa53), .val (.ref sa54), .val (.ref sa55), .val (.ref b56), .val (.ref b61), .val (.int z67_S0), .val (.ref b61), .val (.ref b56), .val (.ref sa52), .val (.int re69), .val (.int re70), .val (.int (1 : Int32)), .unset, .unset] [.null, (.ref b56)]))
                                obtain ⟨cq72, kq72, q72a, q72b, q72c⟩ := isOf (T := T71) hZ e71 ((F60c0.ext E61).keep K65c)
                                obtain ⟨_, T72, Lc72, X72, hQ72, st72⟩ := own_un X71 0 0 (X71.virtualBack hx (y := (⟨"com/example/covenant_atlas/covenantatlas/model/OutlineEntry", "equals", "(Ljava/lang/Object;)Z"⟩ : MethodName)) (z := (⟨"com/example/covenant_atlas/covenantatlas/model/OutlineEntry", "equals", "(Ljava/lang/Object;)Z"⟩ : MethodName)) hown (mvT hZ (hw _ (List.mem_of_getElem? (i := 59) rfl))) (mvT hZ (hw _ (List.mem_of_getElem? (i := 60) rfl))) (notFace_of_selects (args := #[]) (mvT hZ (hw _ (List.mem_of_getElem? (i := 62) rfl)))) (mvT hZ (hw _ (List.mem_of_getElem? (i := 62) rfl))) (mvT hZ (hw _ (List.mem_of_getElem? (i := 61) rfl))) (by decide) (backOf (W := 0) (rm9n l Z a0 hw [] b56 T65.heap n0) hZ (hw _ (List.mem_of_getElem? (i := 63) rfl)) (hw _ (List.mem_of_getElem? (i := 28) rfl)) (by decide) (by decide)) q72a q72c (g := (mkF m 520 #[.val (.int p1), .val (.int p2), .val (.int p3), .val (.long q4), .second, .val (.long q5), .second, .val (.int z2_S0), .val (.int z5_S0), .val (.int z8_S0), .val (.int z11_S0), .val (.int z14_S0), .val (.int vi16), .val (.int z18_S0), .val (.int vi20), .val (.int z22_S0), .val (.int vi24), .val (.int vi25), .val (.int z27_S0), .val (.int z30_S0), .val (.int vi32), .val (.int z34_S0), .val (.int vi36), .val (.int vi37), .val (.int z39_S0), .val (.int z42_S0), .val (.int vi44), .val (.int z46_S0), .val (.int vi48), .val (.int z50_S0), .val (.ref sa52), .val (.ref sa53), .val (.ref sa54), .val (.ref sa55), .val (.ref b56), .val (.ref b61), .val (.int z67_S0), .val (.ref b61), .val (.ref b56), .val (.ref sa52), .val (.int re69), .val (.int re70), .val (.int (1 : Int32)), .unset, .unset] [.null, (.ref b56)])) rfl (by rw [hml]; rfl) (Steps.refl _) (argsL := [.null]) (rest := []) (lenOf pd_7 rfl) rfl (by show 2 * 0 + _ ≤ _; exact Nat.le_of_eq rfl) (hb hby at_520) (fun _ _ => ⟨rfl, e71, (by decide : 18 + 0 ≤ _), (by decide : 42 + 0 ≤ _)⟩))
                                dsimp only [Pt.U] at st72
                                have er72 : T72.heap = T72.heap := rfl
                                obtain ⟨rfl, N72q, e72⟩ := hQ72
                                have N72 := Fr.app N71 N72q
                                replace X72 : Stand p l e room_1 (s.setVm T55.vm) m _ below meth c T72 _ 18 42 := X72
                                refine own_go (fun t_ k => st72.trans k) ?_
                                show WP p e below _ (T72.setTop (mkF m 523 #[.val (.int p1), .val (.int p2), .val (.int p3), .val (.long q4), .second, .val (.long q5), .second, .val (.int z2_S0), .val (.int z5_S0), .val (.int z8_S0), .val (.int z11_S0), .val (.int z14_S0), .val (.int vi16), .val (.int z18_S0), .val (.int vi20), .val (.int z22_S0), .val (.int vi24), .val (.int vi25), .val (.int z27_S0), .val (.int z30_S0), .val (.int vi32), .val (.int z34_S0), .val (.int vi36), .val (.int vi37), .val (.int z39_S0), .val (.int z42_S0), .val (.int vi44), .val (.int z46_S0), .val (.int vi48), .val (.int z50_S0), .val (.ref sa52), .val (.ref sa53), .val (.ref sa54), .val (.ref sa55), .val (.ref b56), .val (.ref b61), .val (.int z67_S0), .val (.ref b61), .val (.ref b56), .val (.ref sa52), .val (.int re69), .val (.int re70), .val (.int (1 : Int32)), .unset, .unset] [(.int (0 : Int32))]))
                                refine own_go (fun t_ k => XS.istore X72.here hx rfl (hb hby at_523) rfl (l' := #[.val (.int p1), .val (.int p2), .val (.int p3), .val (.long q4), .second, .val (.long q5), .second, .val (.int z2_S0), .val (.int z5_S0), .val (.int z8_S0), .val (.int z11_S0), .val (.int z14_S0), .val (.int vi16), .val (.int z18_S0), .val (.int vi20), .val (.int z22_S0), .val (.int vi24), .val (.int vi25), .val (.int z27_S0), .val (.int z30_S0), .val (.int vi32), .val (.int z34_S0), .val (.int vi36), .val (.int vi37), .val (.int z39_S0), .val (.int z42_S0), .val (.int vi44), .val (.int z46_S0), .val (.int vi48), .val (.int z50_S0), .val (.ref sa52), .val (.ref sa53), .val (.ref sa54), .val (.ref sa55), .val (.ref b56), .val (.ref b61), .val (.int z67_S0), .val (.ref b61), .val (.ref b56), .val (.ref sa52), .val (.int re69), .val (.int re70), .val (.int (1 : Int32)), .val (.int (0 : Int32)), .unset]) rfl k) ?_
                                show WP p e below _ (T72.setTop (mkF m 525 #[.val (.int p1), .val (.int p2), .val (.int p3), .val (.long q4), .second, .val (.long q5), .second, .val (.int z2_S0), .val (.int z5_S0), .val (.int z8_S0), .val (.int z11_S0), .val (.int z14_S0), .val (.int vi16), .val (.int z18_S0), .val (.int vi20), .val (.int z22_S0), .val (.int vi24), .val (.int vi25), .val (.int z27_S0), .val (.int z30_S0), .val (.int vi32), .val (.int z34_S0), .val (.int vi36), .val (.int vi37), .val (.int z39_S0), .val (.int z42_S0), .val (.int vi44), .val (.int z46_S0), .val (.int vi48), .val (.int z50_S0), .val (.ref sa52), .val (.ref sa53), .val (.ref sa54), .val (.ref sa55), .val (.ref b56), .val (.ref b61), .val (.int z67_S0), .val (.ref b61), .val (.ref b56), .val (.ref sa52), .val (.int re69), .val (.int re70), .val (.int (1 : Int32)), .val (.int (0 : Int32)), .unset] []))
                                refine own_go (fun t_ k => XS.aload X72.here hx rfl (hb hby at_525) rfl rfl k) ?_
                                show WP p e below _ (T72.setTop (mkF m 527 #[.val (.int p1), .val (.int p2), .val (.int p3), .val (.long q4), .second, .val (.long q5), .second, .val (.int z2_S0), .val (.int z5_S0), .val (.int z8_S0), .val (.int z11_S0), .val (.int z14_S0), .val (.int vi16), .val (.int z18_S0), .val (.int vi20), .val (.int z22_S0), .val (.int vi24), .val (.int vi25), .val (.int z27_S0), .val (.int z30_S0), .val (.int vi32), .val (.int z34_S0), .val (.int vi36), .val (.int vi37), .val (.int z39_S0), .val (.int z42_S0), .val (.int vi44), .val (.int z46_S0), .val (.int vi48), .val (.int z50_S0), .val (.ref sa52), .val (.ref sa53), .val (.ref sa54), .val (.ref sa55), .val (.ref b56), .val (.ref b61), .val (.int z67_S0), .val (.ref b61), .val (.ref b56), .val (.ref sa52), .val (.int re69), .val (.int re70), .val (.int (1 : Int32)), .val (.int (0 : Int32)), .unset] [(.ref b56)]))
                                refine own_go (fun t_ k => XS.aload X72.here hx rfl (hb hby at_527) rfl rfl k) ?_
                                show WP p e below _ (T72.setTop (mkF m 529 #[.val (.int p1), .val (.int p2), .val (.int p3), .val (.long q4), .second, .val (.long q5), .second, .val (.int z2_S0), .val (.int z5_S0), .val (.int z8_S0), .val (.int z11_S0), .val (.int z14_S0), .val (.int vi16), .val (.int z18_S0), .val (.int vi20), .val (.int z22_S0), .val (.int vi24), .val (.int vi25), .val (.int z27_S0), .val (.int z30_S0), .val (.int vi32), .val (.int z34_S0), .val (.int vi36), .val (.int vi37), .val (.int z39_S0), .val (.int z42_S0), .val (.int vi44), .val (.int z46_S0), .val (.int vi48), .val (.int z50_S0), .val (.ref sa52), .val (.ref sa53), .val (.ref sa54), .val (.ref sa55), .val (.ref b56), .val (.ref b61), .val (.int z67_S0), .val (.ref b61), .val (.ref b56), .val (.ref sa52), .val (.int re69), .val (.int re70), .val (.int (1 : Int32)), .val (.int (0 : Int32)), .unset] [(.ref sa52), (.ref b56)]))
                                obtain ⟨cq73, kq73, q73a, q73b, q73c⟩ := isOf (T := T72) hZ e72 ((F60c0.ext E61).keep K65c)
                                obtain ⟨_, T73, Lc73, X73, hQ73, st73⟩ := own_un X72 0 0 (X72.virtualBack hx (y := (⟨"com/example/covenant_atlas/covenantatlas/model/OutlineEntry", "equals", "(Ljava/lang/Object;)Z"⟩ : MethodName)) (z := (⟨"com/example/covenant_atlas/covenantatlas/model/OutlineEntry", "equals", "(Ljava/lang/Object;)Z"⟩ : MethodName)) hown (mvT hZ (hw _ (List.mem_of_getElem? (i := 59) rfl))) (mvT hZ (hw _ (List.mem_of_getElem? (i := 60) rfl))) (notFace_of_selects (args := #[]) (mvT hZ (hw _ (List.mem_of_getElem? (i := 62) rfl)))) (mvT hZ (hw _ (List.mem_of_getElem? (i := 62) rfl))) (mvT hZ (hw _ (List.mem_of_getElem? (i := 61) rfl))) (by decide) (backOf (W := 0) (rm9o l Z a0 hw [] b56 sa52 T65.heap n0 (((((((E52c.keep K53c).keep K54c).keep K55c).ext E56).keep K60c).ext E61).keep K65c)) hZ (hw _ (List.mem_of_getElem? (i := 63) rfl)) (hw _ (List.mem_of_getElem? (i := 28) rfl)) (by decide) (by decide)) q73a q73c (g := (mkF m 529 #[.val (.int p1), .val (.int p2), .val (.int p3), .val (.long q4), .second, .val (.long q5), .second, .val (.int z2_S0), .val (.int z5_S0), .val (.int z8_S0), .val (.int z11_S0), .val (.int z14_S0), .val (.int vi16), .val (.int z18_S0), .val (.int vi20), .val (.int z22_S0), .val (.int vi24), .val (.int vi25), .val (.int z27_S0), .val (.int z30_S0), .val (.int vi32), .val (.int z34_S0), .val (.int vi36), .val (.int vi37), .val (.int z39_S0), .val (.int z42_S0), .val (.int vi44), .val (.int z46_S0), .val (.int vi48), .val (.int z50_S0), .val (.ref sa52), .val (.ref sa53), .val (.ref sa54), .val (.ref sa55), .val (.ref b56), .val (.ref b61), .val (.int z67_S0), .val (.ref b61), .val (.ref b56), .val (.ref sa52), .val (.int re69), .val (.int re70), .val (.int (1 : Int32)), .val (.int (0 : Int32)), .unset] [(.ref sa52), (.ref b56)])) rfl (by rw [hml]; rfl) (Steps.refl _) (argsL := [(.ref sa52)]) (rest := []) (lenOf pd_7 rfl) rfl (by show 2 * 0 + _ ≤ _; exact Nat.le_of_eq rfl) (hb hby at_529) (fun _ _ => ⟨rfl, e72, (by decide : 18 + 0 ≤ _), (by decide : 42 + 0 ≤ _)⟩))
                                dsimp only [Pt.U] at st73
                                have er73 : T73.heap = T73.heap := rfl
                                obtain ⟨rfl, N73q, e73⟩ := hQ73
                                have N73 := Fr.app N72 N73q
                                replace X73 : Stand p l e room_1 (s.setVm T55.vm) m _ below meth c T73 _ 18 42 := X73
                                refine own_go (fun t_ k => st73.trans k) ?_
                                show WP p e below _ (T73.setTop (mkF m 532 #[.val (.int p1), .val (.int p2), .val (.int p3), .val (.long q4), .second, .val (.long q5), .second, .val (.int z2_S0), .val (.int z5_S0), .val (.int z8_S0), .val (.int z11_S0), .val (.int z14_S0), .val (.int vi16), .val (.int z18_S0), .val (.int vi20), .val (.int z22_S0), .val (.int vi24), .val (.int vi25), .val (.int z27_S0), .val (.int z30_S0), .val (.int vi32), .val (.int z34_S0), .val (.int vi36), .val (.int vi37), .val (.int z39_S0), .val (.int z42_S0), .val (.int vi44), .val (.int z46_S0), .val (.int vi48), .val (.int z50_S0), .val (.ref sa52), .val (.ref sa53), .val (.ref sa54), .val (.ref sa55), .val (.ref b56), .val (.ref b61), .val (.int z67_S0), .val (.ref b61), .val (.ref b56), .val (.ref sa52), .val (.int re69), .val (.int re70), .val (.int (1 : Int32)), .val (.int (0 : Int32)), .unset] [(.int (0 : Int32))]))
                                refine own_go (fun t_ k => XS.istore X73.here hx rfl (hb hby at_532) rfl (l' := #[.val (.int p1), .val (.int p2), .val (.int p3), .val (.long q4), .second, .val (.long q5), .second, .val (.int z2_S0), .val (.int z5_S0), .val (.int z8_S0), .val (.int z11_S0), .val (.int z14_S0), .val (.int vi16), .val (.int z18_S0), .val (.int vi20), .val (.int z22_S0), .val (.int vi24), .val (.int vi25), .val (.int z27_S0), .val (.int z30_S0), .val (.int vi32), .val (.int z34_S0), .val (.int vi36), .val (.int vi37), .val (.int z39_S0), .val (.int z42_S0), .val (.int vi44), .val (.int z46_S0), .val (.int vi48), .val (.int z50_S0), .val (.ref sa52), .val (.ref sa53), .val (.ref sa54), .val (.ref sa55), .val (.ref b56), .val (.ref b61), .val (.int z67_S0), .val (.ref b61), .val (.ref b56), .val (.ref sa52), .val (.int re69), .val (.int re70), .val (.int (1 : Int32)), .val (.int (0 : Int32)), .val (.int (0 : Int32))]) rfl k) ?_
                                show WP p e below _ (T73.setTop (mkF m 534 #[.val (.int p1), .val (.int p2), .val (.int p3), .val (.long q4), .second, .val (.long q5), .second, .val (.int z2_S0), .val (.int z5_S0), .val (.int z8_S0), .val (.int z11_S0), .val (.int z14_S0), .val (.int vi16), .val (.int z18_S0), .val (.int vi20), .val (.int z22_S0), .val (.int vi24), .val (.int vi25), .val (.int z27_S0), .val (.int z30_S0), .val (.int vi32), .val (.int z34_S0), .val (.int vi36), .val (.int vi37), .val (.int z39_S0), .val (.int z42_S0), .val (.int vi44), .val (.int z46_S0), .val (.int vi48), .val (.int z50_S0), .val (.ref sa52), .val (.ref sa53), .val (.ref sa54), .val (.ref sa55), .val (.ref b56), .val (.ref b61), .val (.int z67_S0), .val (.ref b61), .val (.ref b56), .val (.ref sa52), .val (.int re69), .val (.int re70), .val (.int (1 : Int32)), .val (.int (0 : Int32)), .val (.int (0 : Int32))] []))
                                refine own_go (fun t_ k => XS.iload X73.here hx rfl (hb hby at_534) rfl k) ?_
                                show WP p e below _ (T73.setTop (mkF m 536 #[.val (.int p1), .val (.int p2), .val (.int p3), .val (.long q4), .second, .val (.long q5), .second, .val (.int z2_S0), .val (.int z5_S0), .val (.int z8_S0), .val (.int z11_S0), .val (.int z14_S0), .val (.int vi16), .val (.int z18_S0), .val (.int vi20), .val (.int z22_S0), .val (.int vi24), .val (.int vi25), .val (.int z27_S0), .val (.int z30_S0), .val (.int vi32), .val (.int z34_S0), .val (.int vi36), .val (.int vi37), .val (.int z39_S0), .val (.int z42_S0), .val (.int vi44), .val (.int z46_S0), .val (.int vi48), .val (.int z50_S0), .val (.ref sa52), .val (.ref sa53), .val (.ref sa54), .val (.ref sa55), .val (.ref b56), .val (.ref b61), .val (.int z67_S0), .val (.ref b61), .val (.ref b56), .val (.ref sa52), .val (.int re69), .val (.int re70), .val (.int (1 : Int32)), .val (.int (0 : Int32)), .val (.int (0 : Int32))] [(.int re69)]))
                                refine own_go (fun t_ k => XS.iload X73.here hx rfl (hb hby at_536) rfl k) ?_
                                show WP p e below _ (T73.setTop (mkF m 538 #[.val (.int p1), .val (.int p2), .val (.int p3), .val (.long q4), .second, .val (.long q5), .second, .val (.int z2_S0), .val (.int z5_S0), .val (.int z8_S0), .val (.int z11_S0), .val (.int z14_S0), .val (.int vi16), .val (.int z18_S0), .val (.int vi20), .val (.int z22_S0), .val (.int vi24), .val (.int vi25), .val (.int z27_S0), .val (.int z30_S0), .val (.int vi32), .val (.int z34_S0), .val (.int vi36), .val (.int vi37), .val (.int z39_S0), .val (.int z42_S0), .val (.int vi44), .val (.int z46_S0), .val (.int vi48), .val (.int z50_S0), .val (.ref sa52), .val (.ref sa53), .val (.ref sa54), .val (.ref sa55), .val (.ref b56), .val (.ref b61), .val (.int z67_S0), .val (.ref b61), .val (.ref b56), .val (.ref sa52), .val (.int re69), .val (.int re70), .val (.int (1 : Int32)), .val (.int (0 : Int32)), .val (.int (0 : Int32))] [(.int z67_S0), (.int re69)]))
                                have hc538_74 : (re69 = z67_S0) := own_fin (EQ69) (own_kfI hKD (own_K he16) (own_iteK hz18_S0 (own_K rfl) (own_K he16)) he58 he63) (own_same8 SX52 SX53 (own_B he24) (own_B he25) (own_iteB hz27_S0 (own_B rfl) (own_B he24)) (own_iteB hz30_S0 (own_B rfl) (own_B he25))) (own_same8 SX54 SX55 (own_B he36) (own_B he37) (own_iteB hz39_S0 (own_B rfl) (own_B he36)) (own_iteB hz42_S0 (own_B rfl) (own_B he37))) hz67_S0
                                refine own_go (fun t_ k => XS.icmpNo X73.here hx rfl (hb hby at_538) rfl (teq hc538_74).2 k) ?_
                                show WP p e below _ (T73.setTop (mkF m 541 #[.val (.int p1), .val (.int p2), .val (.int p3), .val (.long q4), .second, .val (.long q5), .second, .val (.int z2_S0), .val (.int z5_S0), .val (.int z8_S0), .val (.int z11_S0), .val (.int z14_S0), .val (.int vi16), .val (.int z18_S0), .val (.int vi20), .val (.int z22_S0), .val (.int vi24), .val (.int vi25), .val (.int z27_S0), .val (.int z30_S0), .val (.int vi32), .val (.int z34_S0), .val (.int vi36), .val (.int vi37), .val (.int z39_S0), .val (.int z42_S0), .val (.int vi44), .val (.int z46_S0), .val (.int vi48), .val (.int z50_S0), .val (.ref sa52), .val (.ref sa53), .val (.ref sa54), .val (.ref sa55), .val (.ref b56), .val (.ref b61), .val (.int z67_S0), .val (.ref b61), .val (.ref b56), .val (.ref sa52), .val (.int re69), .val (.int re70), .val (.int (1 : Int32)), .val (.int (0 : Int32)), .val (.int (0 : Int32))] []))
                                refine own_go (fun t_ k => XS.iload X73.here hx rfl (hb hby at_541) rfl k) ?_
                                show WP p e below _ (T73.setTop (mkF m 543 #[.val (.int p1), .val (.int p2), .val (.int p3), .val (.long q4), .second, .val (.long q5), .second, .val (.int z2_S0), .val (.int z5_S0), .val (.int z8_S0), .val (.int z11_S0), .val (.int z14_S0), .val (.int vi16), .val (.int z18_S0), .val (.int vi20), .val (.int z22_S0), .val (.int vi24), .val (.int vi25), .val (.int z27_S0), .val (.int z30_S0), .val (.int vi32), .val (.int z34_S0), .val (.int vi36), .val (.int vi37), .val (.int z39_S0), .val (.int z42_S0), .val (.int vi44), .val (.int z46_S0), .val (.int vi48), .val (.int z50_S0), .val (.ref sa52), .val (.ref sa53), .val (.ref sa54), .val (.ref sa55), .val (.ref b56), .val (.ref b61), .val (.int z67_S0), .val (.ref b61), .val (.ref b56), .val (.ref sa52), .val (.int re69), .val (.int re70), .val (.int (1 : Int32)), .val (.int (0 : Int32)), .val (.int (0 : Int32))] [(.int re70)]))
                                refine own_go (fun t_ k => XS.iload X73.here hx rfl (hb hby at_543) rfl k) ?_
                                show WP p e below _ (T73.setTop (mkF m 545 #[.val (.int p1), .val (.int p2), .val (.int p3), .val (.long q4), .second, .val (.long q5), .second, .val (.int z2_S0), .val (.int z5_S0), .val (.int z8_S0), .val (.int z11_S0), .val (.int z14_S0), .val (.int vi16), .val (.int z18_S0), .val (.int vi20), .val (.int z22_S0), .val (.int vi24), .val (.int vi25), .val (.int z27_S0), .val (.int z30_S0), .val (.int vi32), .val (.int z34_S0), .val (.int vi36), .val (.int vi37), .val (.int z39_S0), .val (.int z42_S0), .val (.int vi44), .val (.int z46_S0), .val (.int vi48), .val (.int z50_S0), .val (.ref sa52), .val (.ref sa53), .val (.ref sa54), .val (.ref sa55), .val (.ref b56), .val (.ref b61), .val (.int z67_S0), .val (.ref b61), .val (.ref b56), .val (.ref sa52), .val (.int re69), .val (.int re70), .val (.int (1 : Int32)), .val (.int (0 : Int32)), .val (.int (0 : Int32))] [(.int z67_S0), (.int re70)]))
                                have hc545_75 : (re70 = z67_S0) := own_fin (EQ70.symm) (own_kfI hKD (own_K he16) (own_iteK hz18_S0 (own_K rfl) (own_K he16)) he58 he63) (own_same8 SX52 SX53 (own_B he24) (own_B he25) (own_iteB hz27_S0 (own_B rfl) (own_B he24)) (own_iteB hz30_S0 (own_B rfl) (own_B he25))) (own_same8 SX54 SX55 (own_B he36) (own_B he37) (own_iteB hz39_S0 (own_B rfl) (own_B he36)) (own_iteB hz42_S0 (own_B rfl) (own_B he37))) hz67_S0
                                refine own_go (fun t_ k => XS.icmpNo X73.here hx rfl (hb hby at_545) rfl (teq hc545_75).2 k) ?_
                                show WP p e below _ (T73.setTop (mkF m 548 #[.val (.int p1), .val (.int p2), .val (.int p3), .val (.long q4), .second, .val (.long q5), .second, .val (.int z2_S0), .val (.int z5_S0), .val (.int z8_S0), .val (.int z11_S0), .val (.int z14_S0), .val (.int vi16), .val (.int z18_S0), .val (.int vi20), .val (.int z22_S0), .val (.int vi24), .val (.int vi25), .val (.int z27_S0), .val (.int z30_S0), .val (.int vi32), .val (.int z34_S0), .val (.int vi36), .val (.int vi37), .val (.int z39_S0), .val (.int z42_S0), .val (.int vi44), .val (.int z46_S0), .val (.int vi48), .val (.int z50_S0), .val (.ref sa52), .val (.ref sa53), .val (.ref sa54), .val (.ref sa55), .val (.ref b56), .val (.ref b61), .val (.int z67_S0), .val (.ref b61), .val (.ref b56), .val (.ref sa52), .val (.int re69), .val (.int re70), .val (.int (1 : Int32)), .val (.int (0 : Int32)), .val (.int (0 : Int32))] []))
                                refine own_go (fun t_ k => XS.iload X73.here hx rfl (hb hby at_548) rfl k) ?_
                                show WP p e below _ (T73.setTop (mkF m 550 #[.val (.int p1), .val (.int p2), .val (.int p3), .val (.long q4), .second, .val (.long q5), .second, .val (.int z2_S0), .val (.int z5_S0), .val (.int z8_S0), .val (.int z11_S0), .val (.int z14_S0), .val (.int vi16), .val (.int z18_S0), .val (.int vi20), .val (.int z22_S0), .val (.int vi24), .val (.int vi25), .val (.int z27_S0), .val (.int z30_S0), .val (.int vi32), .val (.int z34_S0), .val (.int vi36), .val (.int vi37), .val (.int z39_S0), .val (.int z42_S0), .val (.int vi44), .val (.int z46_S0), .val (.int vi48), .val (.int z50_S0), .val (.ref sa52), .val (.ref sa53), .val (.ref sa54), .val (.ref sa55), .val (.ref b56), .val (.ref b61), .val (.int z67_S0), .val (.ref b61), .val (.ref b56), .val (.ref sa52), .val (.int re69), .val (.int re70), .val (.int (1 : Int32)), .val (.int (0 : Int32)), .val (.int (0 : Int32))] [(.int (1 : Int32))]))
                                have hc550_76 : ¬ ((1 : Int32) = (0 : Int32)) := by decide
                                refine own_go (fun t_ k => XS.ifNo X73.here hx rfl (hb hby at_550) rfl ((if0 _ _).trans (feq hc550_76).1) k) ?_
                                show WP p e below _ (T73.setTop (mkF m 553 #[.val (.int p1), .val (.int p2), .val (.int p3), .val (.long q4), .second, .val (.long q5), .second, .val (.int z2_S0), .val (.int z5_S0), .val (.int z8_S0), .val (.int z11_S0), .val (.int z14_S0), .val (.int vi16), .val (.int z18_S0), .val (.int vi20), .val (.int z22_S0), .val (.int vi24), .val (.int vi25), .val (.int z27_S0), .val (.int z30_S0), .val (.int vi32), .val (.int z34_S0), .val (.int vi36), .val (.int vi37), .val (.int z39_S0), .val (.int z42_S0), .val (.int vi44), .val (.int z46_S0), .val (.int vi48), .val (.int z50_S0), .val (.ref sa52), .val (.ref sa53), .val (.ref sa54), .val (.ref sa55), .val (.ref b56), .val (.ref b61), .val (.int z67_S0), .val (.ref b61), .val (.ref b56), .val (.ref sa52), .val (.int re69), .val (.int re70), .val (.int (1 : Int32)), .val (.int (0 : Int32)), .val (.int (0 : Int32))] []))
                                refine own_go (fun t_ k => XS.iload X73.here hx rfl (hb hby at_553) rfl k) ?_
                                show WP p e below _ (T73.setTop (mkF m 555 #[.val (.int p1), .val (.int p2), .val (.int p3), .val (.long q4), .second, .val (.long q5), .second, .val (.int z2_S0), .val (.int z5_S0), .val (.int z8_S0), .val (.int z11_S0), .val (.int z14_S0), .val (.int vi16), .val (.int z18_S0), .val (.int vi20), .val (.int z22_S0), .val (.int vi24), .val (.int vi25), .val (.int z27_S0), .val (.int z30_S0), .val (.int vi32), .val (.int z34_S0), .val (.int vi36), .val (.int vi37), .val (.int z39_S0), .val (.int z42_S0), .val (.int vi44), .val (.int z46_S0), .val (.int vi48), .val (.int z50_S0), .val (.ref sa52), .val (.ref sa53), .val (.ref sa54), .val (.ref sa55), .val (.ref b56), .val (.ref b61), .val (.int z67_S0), .val (.ref b61), .val (.ref b56), .val (.ref sa52), .val (.int re69), .val (.int re70), .val (.int (1 : Int32)), .val (.int (0 : Int32)), .val (.int (0 : Int32))] [(.int (0 : Int32))]))
                                have hc555_77 : ((0 : Int32) = (0 : Int32)) := by decide
                                refine own_go (fun t_ k => XS.ifNo X73.here hx rfl (hb hby at_555) rfl ((if0 _ _).trans (teq hc555_77).2) k) ?_
                                show WP p e below _ (T73.setTop (mkF m 558 #[.val (.int p1), .val (.int p2), .val (.int p3), .val (.long q4), .second, .val (.long q5), .second, .val (.int z2_S0), .val (.int z5_S0), .val (.int z8_S0), .val (.int z11_S0), .val (.int z14_S0), .val (.int vi16), .val (.int z18_S0), .val (.int vi20), .val (.int z22_S0), .val (.int vi24), .val (.int vi25), .val (.int z27_S0), .val (.int z30_S0), .val (.int vi32), .val (.int z34_S0), .val (.int vi36), .val (.int vi37), .val (.int z39_S0), .val (.int z42_S0), .val (.int vi44), .val (.int z46_S0), .val (.int vi48), .val (.int z50_S0), .val (.ref sa52), .val (.ref sa53), .val (.ref sa54), .val (.ref sa55), .val (.ref b56), .val (.ref b61), .val (.int z67_S0), .val (.ref b61), .val (.ref b56), .val (.ref sa52), .val (.int re69), .val (.int re70), .val (.int (1 : Int32)), .val (.int (0 : Int32)), .val (.int (0 : Int32))] []))
                                refine own_go (fun t_ k => XS.iload X73.here hx rfl (hb hby at_558) rfl k) ?_
                                show WP p e below _ (T73.setTop (mkF m 560 #[.val (.int p1), .val (.int p2), .val (.int p3), .val (.long q4), .second, .val (.long q5), .second, .val (.int z2_S0), .val (.int z5_S0), .val (.int z8_S0), .val (.int z11_S0), .val (.int z14_S0), .val (.int vi16), .val (.int z18_S0), .val (.int vi20), .val (.int z22_S0), .val (.int vi24), .val (.int vi25), .val (.int z27_S0), .val (.int z30_S0), .val (.int vi32), .val (.int z34_S0), .val (.int vi36), .val (.int vi37), .val (.int z39_S0), .val (.int z42_S0), .val (.int vi44), .val (.int z46_S0), .val (.int vi48), .val (.int z50_S0), .val (.ref sa52), .val (.ref sa53), .val (.ref sa54), .val (.ref sa55), .val (.ref b56), .val (.ref b61), .val (.int z67_S0), .val (.ref b61), .val (.ref b56), .val (.ref sa52), .val (.int re69), .val (.int re70), .val (.int (1 : Int32)), .val (.int (0 : Int32)), .val (.int (0 : Int32))] [(.int (0 : Int32))]))
                                have hc560_78 : ((0 : Int32) = (0 : Int32)) := by decide
                                refine own_go (fun t_ k => XS.ifNo X73.here hx rfl (hb hby at_560) rfl ((if0 _ _).trans (teq hc560_78).2) k) ?_
                                show WP p e below _ (T73.setTop (mkF m 563 #[.val (.int p1), .val (.int p2), .val (.int p3), .val (.long q4), .second, .val (.long q5), .second, .val (.int z2_S0), .val (.int z5_S0), .val (.int z8_S0), .val (.int z11_S0), .val (.int z14_S0), .val (.int vi16), .val (.int z18_S0), .val (.int vi20), .val (.int z22_S0), .val (.int vi24), .val (.int vi25), .val (.int z27_S0), .val (.int z30_S0), .val (.int vi32), .val (.int z34_S0), .val (.int vi36), .val (.int vi37), .val (.int z39_S0), .val (.int z42_S0), .val (.int vi44), .val (.int z46_S0), .val (.int vi48), .val (.int z50_S0), .val (.ref sa52), .val (.ref sa53), .val (.ref sa54), .val (.ref sa55), .val (.ref b56), .val (.ref b61), .val (.int z67_S0), .val (.ref b61), .val (.ref b56), .val (.ref sa52), .val (.int re69), .val (.int re70), .val (.int (1 : Int32)), .val (.int (0 : Int32)), .val (.int (0 : Int32))] []))
                                refine own_go (fun t_ k => XS.iconst X73.here hx rfl (hb hby at_563) k) ?_
                                show WP p e below _ (T73.setTop (mkF m 564 #[.val (.int p1), .val (.int p2), .val (.int p3), .val (.long q4), .second, .val (.long q5), .second, .val (.int z2_S0), .val (.int z5_S0), .val (.int z8_S0), .val (.int z11_S0), .val (.int z14_S0), .val (.int vi16), .val (.int z18_S0), .val (.int vi20), .val (.int z22_S0), .val (.int vi24), .val (.int vi25), .val (.int z27_S0), .val (.int z30_S0), .val (.int vi32), .val (.int z34_S0), .val (.int vi36), .val (.int vi37), .val (.int z39_S0), .val (.int z42_S0), .val (.int vi44), .val (.int z46_S0), .val (.int vi48), .val (.int z50_S0), .val (.ref sa52), .val (.ref sa53), .val (.ref sa54), .val (.ref sa55), .val (.ref b56), .val (.ref b61), .val (.int z67_S0), .val (.ref b61), .val (.ref b56), .val (.ref sa52), .val (.int re69), .val (.int re70), .val (.int (1 : Int32)), .val (.int (0 : Int32)), .val (.int (0 : Int32))] [(.int (1 : Int32))]))
                                refine own_go (fun t_ k => XS.goto X73.here hx rfl (pc0 := 564) (pc' := 568) rfl (hb hby at_564) (by decide) (by decide) k) ?_
                                show WP p e below _ (T73.setTop (mkF m 568 #[.val (.int p1), .val (.int p2), .val (.int p3), .val (.long q4), .second, .val (.long q5), .second, .val (.int z2_S0), .val (.int z5_S0), .val (.int z8_S0), .val (.int z11_S0), .val (.int z14_S0), .val (.int vi16), .val (.int z18_S0), .val (.int vi20), .val (.int z22_S0), .val (.int vi24), .val (.int vi25), .val (.int z27_S0), .val (.int z30_S0), .val (.int vi32), .val (.int z34_S0), .val (.int vi36), .val (.int vi37), .val (.int z39_S0), .val (.int z42_S0), .val (.int vi44), .val (.int z46_S0), .val (.int vi48), .val (.int z50_S0), .val (.ref sa52), .val (.ref sa53), .val (.ref sa54), .val (.ref sa55), .val (.ref b56), .val (.ref b61), .val (.int z67_S0), .val (.ref b61), .val (.ref b56), .val (.ref sa52), .val (.int re69), .val (.int re70), .val (.int (1 : Int32)), .val (.int (0 : Int32)), .val (.int (0 : Int32))] [(.int (1 : Int32))]))
                                exact own_retWZ X73 Sn55 (by rw [e73]; exact (Nat.le_trans (Nat.le_trans (Nat.le_trans (Nat.le_trans (Nat.le_refl _) E56.1) K60c.1) E61.1) K65c.1)) hx Bd.notSynchronized Bd.returns (hb hby at_568) (by decide) (show Q0 n0 _ _ _ from ⟨rfl, N73⟩)  (by decide) (by decide)
                              by_cases hc418_66 : vi16 = z18_S0
                              · refine own_go (fun t_ k => XS.icmpNo X65.here hx rfl (hb hby at_418) rfl (teq hc418_66).2 k) ?_
                                show WP p e below _ (T65.setTop (mkF m 421 #[.val (.int p1), .val (.int p2), .val (.int p3), .val (.long q4), .second, .val (.long q5), .second, .val (.int z2_S0), .val (.int z5_S0), .val (.int z8_S0), .val (.int z11_S0), .val (.int z14_S0), .val (.int vi16), .val (.int z18_S0), .val (.int vi20), .val (.int z22_S0), .val (.int vi24), .val (.int vi25), .val (.int z27_S0), .val (.int z30_S0), .val (.int vi32), .val (.int z34_S0), .val (.int vi36), .val (.int vi37), .val (.int z39_S0), .val (.int z42_S0), .val (.int vi44), .val (.int z46_S0), .val (.int vi48), .val (.int z50_S0), .val (.ref sa52), .val (.ref sa53), .val (.ref sa54), .val (.ref sa55), .val (.ref b56), .val (.ref b61), .unset, .unset, .unset, .unset, .unset, .unset, .unset, .unset, .unset] []))
                                refine own_go (fun t_ k => XS.iload X65.here hx rfl (hb hby at_421) rfl k) ?_
                                show WP p e below _ (T65.setTop (mkF m 423 #[.val (.int p1), .val (.int p2), .val (.int p3), .val (.long q4), .second, .val (.long q5), .second, .val (.int z2_S0), .val (.int z5_S0), .val (.int z8_S0), .val (.int z11_S0), .val (.int z14_S0), .val (.int vi16), .val (.int z18_S0), .val (.int vi20), .val (.int z22_S0), .val (.int vi24), .val (.int vi25), .val (.int z27_S0), .val (.int z30_S0), .val (.int vi32), .val (.int z34_S0), .val (.int vi36), .val (.int vi37), .val (.int z39_S0), .val (.int z42_S0), .val (.int vi44), .val (.int z46_S0), .val (.int vi48), .val (.int z50_S0), .val (.ref sa52), .val (.ref sa53), .val (.ref sa54), .val (.ref sa55), .val (.ref b56), .val (.ref b61), .unset, .unset, .unset, .unset, .unset, .unset, .unset, .unset, .unset] [(.int vi20)]))
                                refine own_go (fun t_ k => XS.iload X65.here hx rfl (hb hby at_423) rfl k) ?_
                                show WP p e below _ (T65.setTop (mkF m 425 #[.val (.int p1), .val (.int p2), .val (.int p3), .val (.long q4), .second, .val (.long q5), .second, .val (.int z2_S0), .val (.int z5_S0), .val (.int z8_S0), .val (.int z11_S0), .val (.int z14_S0), .val (.int vi16), .val (.int z18_S0), .val (.int vi20), .val (.int z22_S0), .val (.int vi24), .val (.int vi25), .val (.int z27_S0), .val (.int z30_S0), .val (.int vi32), .val (.int z34_S0), .val (.int vi36), .val (.int vi37), .val (.int z39_S0), .val (.int z42_S0), .val (.int vi44), .val (.int z46_S0), .val (.int vi48), .val (.int z50_S0), .val (.ref sa52), .val (.ref sa53), .val (.ref sa54), .val (.ref sa55), .val (.ref b56), .val (.ref b61), .unset, .unset, .unset, .unset, .unset, .unset, .unset, .unset, .unset] [(.int vi24), (.int vi20)]))
                                refine own_go (fun t_ k => XS.iload X65.here hx rfl (hb hby at_425) rfl k) ?_
                                show WP p e below _ (T65.setTop (mkF m 427 #[.val (.int p1), .val (.int p2), .val (.int p3), .val (.long q4), .second, .val (.long q5), .second, .val (.int z2_S0), .val (.int z5_S0), .val (.int z8_S0), .val (.int z11_S0), .val (.int z14_S0), .val (.int vi16), .val (.int z18_S0), .val (.int vi20), .val (.int z22_S0), .val (.int vi24), .val (.int vi25), .val (.int z27_S0), .val (.int z30_S0), .val (.int vi32), .val (.int z34_S0), .val (.int vi36), .val (.int vi37), .val (.int z39_S0), .val (.int z42_S0), .val (.int vi44), .val (.int z46_S0), .val (.int vi48), .val (.int z50_S0), .val (.ref sa52), .val (.ref sa53), .val (.ref sa54), .val (.ref sa55), .val (.ref b56), .val (.ref b61), .unset, .unset, .unset, .unset, .unset, .unset, .unset, .unset, .unset] [(.int vi25), (.int vi24), (.int vi20)]))
                                refine own_go (fun t_ k => XS.iload X65.here hx rfl (hb hby at_427) rfl k) ?_
                                show WP p e below _ (T65.setTop (mkF m 429 #[.val (.int p1), .val (.int p2), .val (.int p3), .val (.long q4), .second, .val (.long q5), .second, .val (.int z2_S0), .val (.int z5_S0), .val (.int z8_S0), .val (.int z11_S0), .val (.int z14_S0), .val (.int vi16), .val (.int z18_S0), .val (.int vi20), .val (.int z22_S0), .val (.int vi24), .val (.int vi25), .val (.int z27_S0), .val (.int z30_S0), .val (.int vi32), .val (.int z34_S0), .val (.int vi36), .val (.int vi37), .val (.int z39_S0), .val (.int z42_S0), .val (.int vi44), .val (.int z46_S0), .val (.int vi48), .val (.int z50_S0), .val (.ref sa52), .val (.ref sa53), .val (.ref sa54), .val (.ref sa55), .val (.ref b56), .val (.ref b61), .unset, .unset, .unset, .unset, .unset, .unset, .unset, .unset, .unset] [(.int z22_S0), (.int vi25), (.int vi24), (.int vi20)]))
                                refine own_go (fun t_ k => XS.iload X65.here hx rfl (hb hby at_429) rfl k) ?_
                                show WP p e below _ (T65.setTop (mkF m 431 #[.val (.int p1), .val (.int p2), .val (.int p3), .val (.long q4), .second, .val (.long q5), .second, .val (.int z2_S0), .val (.int z5_S0), .val (.int z8_S0), .val (.int z11_S0), .val (.int z14_S0), .val (.int vi16), .val (.int z18_S0), .val (.int vi20), .val (.int z22_S0), .val (.int vi24), .val (.int vi25), .val (.int z27_S0), .val (.int z30_S0), .val (.int vi32), .val (.int z34_S0), .val (.int vi36), .val (.int vi37), .val (.int z39_S0), .val (.int z42_S0), .val (.int vi44), .val (.int z46_S0), .val (.int vi48), .val (.int z50_S0), .val (.ref sa52), .val (.ref sa53), .val (.ref sa54), .val (.ref sa55), .val (.ref b56), .val (.ref b61), .unset, .unset, .unset, .unset, .unset, .unset, .unset, .unset, .unset] [(.int z27_S0), (.int z22_S0), (.int vi25), (.int vi24), (.int vi20)]))
                                refine own_go (fun t_ k => XS.iload X65.here hx rfl (hb hby at_431) rfl k) ?_
                                show WP p e below _ (T65.setTop (mkF m 433 #[.val (.int p1), .val (.int p2), .val (.int p3), .val (.long q4), .second, .val (.long q5), .second, .val (.int z2_S0), .val (.int z5_S0), .val (.int z8_S0), .val (.int z11_S0), .val (.int z14_S0), .val (.int vi16), .val (.int z18_S0), .val (.int vi20), .val (.int z22_S0), .val (.int vi24), .val (.int vi25), .val (.int z27_S0), .val (.int z30_S0), .val (.int vi32), .val (.int z34_S0), .val (.int vi36), .val (.int vi37), .val (.int z39_S0), .val (.int z42_S0), .val (.int vi44), .val (.int z46_S0), .val (.int vi48), .val (.int z50_S0), .val (.ref sa52), .val (.ref sa53), .val (.ref sa54), .val (.ref sa55), .val (.ref b56), .val (.ref b61), .unset, .unset, .unset, .unset, .unset, .unset, .unset, .unset, .unset] [(.int z30_S0), (.int z27_S0), (.int z22_S0), (.int vi25), (.int vi24), (.int vi20)]))
                                obtain ⟨_, T79, Lc79, X79, hQ79, st79⟩ := own_un X65 0 0 (Jvm.LawKit.callS X65 hx (y := (⟨"com/example/covenant_atlas/covenantatlas/model/OutlineEntryEqualsPinLaw", "sameStr", "(IIIIII)Z"⟩ : MethodName)) hown (mvT hZ (hw _ (List.mem_of_getElem? (i := 56) rfl))) (mvT hZ (hw _ (List.mem_of_getElem? (i := 57) rfl))) (mvT hZ (hw _ (List.mem_of_getElem? (i := 2) rfl))) (mvT hZ (hw _ (List.mem_of_getElem? (i := 58) rfl))) (by decide) (backOf (W := 0) (rm8 l Z a0 hw [] vi20 vi24 vi25 z22_S0 z27_S0 z30_S0 T65.heap n0) hZ (hw _ (List.mem_of_getElem? (i := 58) rfl)) (hw _ (List.mem_of_getElem? (i := 2) rfl)) (by decide) (by decide)) (g := (mkF m 433 #[.val (.int p1), .val (.int p2), .val (.int p3), .val (.long q4), .second, .val (.long q5), .second, .val (.int z2_S0), .val (.int z5_S0), .val (.int z8_S0), .val (.int z11_S0), .val (.int z14_S0), .val (.int vi16), .val (.int z18_S0), .val (.int vi20), .val (.int z22_S0), .val (.int vi24), .val (.int vi25), .val (.int z27_S0), .val (.int z30_S0), .val (.int vi32), .val (.int z34_S0), .val (.int vi36), .val (.int vi37), .val (.int z39_S0), .val (.int z42_S0), .val (.int vi44), .val (.int z46_S0), .val (.int vi48), .val (.int z50_S0), .val (.ref sa52), .val (.ref sa53), .val (.ref sa54), .val (.ref sa55), .val (.ref b56), .val (.ref b61), .unset, .unset, .unset, .unset, .unset, .unset, .unset, .unset, .unset] [(.int z30_S0), (.int z27_S0), (.int z22_S0), (.int vi25), (.int vi24), (.int vi20)])) rfl (by rw [hml]; rfl) (argsL := [(.int vi20), (.int vi24), (.int vi25), (.int z22_S0), (.int z27_S0), (.int z30_S0)]) (rest := []) (lenOf pd_11 rfl) rfl (by show 2 * 0 + _ ≤ _; exact Nat.le_of_eq rfl) (hb hby at_433) (fun _ _ => ⟨rfl, er65, (by decide : 18 + 0 ≤ _), (by decide : 42 + 0 ≤ _)⟩))
                                dsimp only [Pt.U] at st79
                                have er79 : T79.heap = T79.heap := rfl
                                obtain ⟨rfl, N79q, e79⟩ := hQ79
                                have N79 := Fr.app N65 N79q
                                replace X79 : Stand p l e room_1 (s.setVm T55.vm) m _ below meth c T79 _ 18 42 := X79
                                refine own_go st79 ?_
                                show WP p e below _ (T79.setTop (mkF m 436 #[.val (.int p1), .val (.int p2), .val (.int p3), .val (.long q4), .second, .val (.long q5), .second, .val (.int z2_S0), .val (.int z5_S0), .val (.int z8_S0), .val (.int z11_S0), .val (.int z14_S0), .val (.int vi16), .val (.int z18_S0), .val (.int vi20), .val (.int z22_S0), .val (.int vi24), .val (.int vi25), .val (.int z27_S0), .val (.int z30_S0), .val (.int vi32), .val (.int z34_S0), .val (.int vi36), .val (.int vi37), .val (.int z39_S0), .val (.int z42_S0), .val (.int vi44), .val (.int z46_S0), .val (.int vi48), .val (.int z50_S0), .val (.ref sa52), .val (.ref sa53), .val (.ref sa54), .val (.ref sa55), .val (.ref b56), .val (.ref b61), .unset, .unset, .unset, .unset, .unset, .unset, .unset, .unset, .unset] [(.int (f8 vi20 vi24 vi25 z22_S0 z27_S0 z30_S0))]))
                                by_cases hc436_80 : (f8 vi20 vi24 vi25 z22_S0 z27_S0 z30_S0) = (0 : Int32)
                                · refine own_go (fun t_ k => XS.ifYes X79.here hx rfl (pc0 := 436) (pc' := 475) rfl (hb hby at_436) rfl ((if0 _ _).trans (teq hc436_80).1) (by decide) (by decide) k) ?_
                                  show WP p e below _ (T79.setTop (mkF m 475 #[.val (.int p1), .val (.int p2), .val (.int p3), .val (.long q4), .second, .val (.long q5), .second, .val (.int z2_S0), .val (.int z5_S0), .val (.int z8_S0), .val (.int z11_S0), .val (.int z14_S0), .val (.int vi16), .val (.int z18_S0), .val (.int vi20), .val (.int z22_S0), .val (.int vi24), .val (.int vi25), .val (.int z27_S0), .val (.int z30_S0), .val (.int vi32), .val (.int z34_S0), .val (.int vi36), .val (.int vi37), .val (.int z39_S0), .val (.int z42_S0), .val (.int vi44), .val (.int z46_S0), .val (.int vi48), .val (.int z50_S0), .val (.ref sa52), .val (.ref sa53), .val (.ref sa54), .val (.ref sa55), .val (.ref b56), .val (.ref b61), .unset, .unset, .unset, .unset, .unset, .unset, .unset, .unset, .unset] []))
                                  refine own_go (fun t_ k => XS.iconst X79.here hx rfl (hb hby at_475) k) ?_
                                  show WP p e below _ (T79.setTop (mkF m 476 #[.val (.int p1), .val (.int p2), .val (.int p3), .val (.long q4), .second, .val (.long q5), .second, .val (.int z2_S0), .val (.int z5_S0), .val (.int z8_S0), .val (.int z11_S0), .val (.int z14_S0), .val (.int vi16), .val (.int z18_S0), .val (.int vi20), .val (.int z22_S0), .val (.int vi24), .val (.int vi25), .val (.int z27_S0), .val (.int z30_S0), .val (.int vi32), .val (.int z34_S0), .val (.int vi36), .val (.int vi37), .val (.int z39_S0), .val (.int z42_S0), .val (.int vi44), .val (.int z46_S0), .val (.int vi48), .val (.int z50_S0), .val (.ref sa52), .val (.ref sa53), .val (.ref sa54), .val (.ref sa55), .val (.ref b56), .val (.ref b61), .unset, .unset, .unset, .unset, .unset, .unset, .unset, .unset, .unset] [(.int (0 : Int32))]))
                                  exact J68 T79 _ X79 N79 e79 _ (by rw [if_pos hc418_66, if_pos hc436_80])
                                · refine own_go (fun t_ k => XS.ifNo X79.here hx rfl (hb hby at_436) rfl ((if0 _ _).trans (feq hc436_80).1) k) ?_
                                  show WP p e below _ (T79.setTop (mkF m 439 #[.val (.int p1), .val (.int p2), .val (.int p3), .val (.long q4), .second, .val (.long q5), .second, .val (.int z2_S0), .val (.int z5_S0), .val (.int z8_S0), .val (.int z11_S0), .val (.int z14_S0), .val (.int vi16), .val (.int z18_S0), .val (.int vi20), .val (.int z22_S0), .val (.int vi24), .val (.int vi25), .val (.int z27_S0), .val (.int z30_S0), .val (.int vi32), .val (.int z34_S0), .val (.int vi36), .val (.int vi37), .val (.int z39_S0), .val (.int z42_S0), .val (.int vi44), .val (.int z46_S0), .val (.int vi48), .val (.int z50_S0), .val (.ref sa52), .val (.ref sa53), .val (.ref sa54), .val (.ref sa55), .val (.ref b56), .val (.ref b61), .unset, .unset, .unset, .unset, .unset, .unset, .unset, .unset, .unset] []))
                                  refine own_go (fun t_ k => XS.iload X79.here hx rfl (hb hby at_439) rfl k) ?_
                                  show WP p e below _ (T79.setTop (mkF m 441 #[.val (.int p1), .val (.int p2), .val (.int p3), .val (.long q4), .second, .val (.long q5), .second, .val (.int z2_S0), .val (.int z5_S0), .val (.int z8_S0), .val (.int z11_S0), .val (.int z14_S0), .val (.int vi16), .val (.int z18_S0), .val (.int vi20), .val (.int z22_S0), .val (.int vi24), .val (.int vi25), .val (.int z27_S0), .val (.int z30_S0), .val (.int vi32), .val (.int z34_S0), .val (.int vi36), .val (.int vi37), .val (.int z39_S0), .val (.int z42_S0), .val (.int vi44), .val (.int z46_S0), .val (.int vi48), .val (.int z50_S0), .val (.ref sa52), .val (.ref sa53), .val (.ref sa54), .val (.ref sa55), .val (.ref b56), .val (.ref b61), .unset, .unset, .unset, .unset, .unset, .unset, .unset, .unset, .unset] [(.int vi32)]))
                                  refine own_go (fun t_ k => XS.iload X79.here hx rfl (hb hby at_441) rfl k) ?_
                                  show WP p e below _ (T79.setTop (mkF m 443 #[.val (.int p1), .val (.int p2), .val (.int p3), .val (.long q4), .second, .val (.long q5), .second, .val (.int z2_S0), .val (.int z5_S0), .val (.int z8_S0), .val (.int z11_S0), .val (.int z14_S0), .val (.int vi16), .val (.int z18_S0), .val (.int vi20), .val (.int z22_S0), .val (.int vi24), .val (.int vi25), .val (.int z27_S0), .val (.int z30_S0), .val (.int vi32), .val (.int z34_S0), .val (.int vi36), .val (.int vi37), .val (.int z39_S0), .val (.int z42_S0), .val (.int vi44), .val (.int z46_S0), .val (.int vi48), .val (.int z50_S0), .val (.ref sa52), .val (.ref sa53), .val (.ref sa54), .val (.ref sa55), .val (.ref b56), .val (.ref b61), .unset, .unset, .unset, .unset, .unset, .unset, .unset, .unset, .unset] [(.int vi36), (.int vi32)]))
                                  refine own_go (fun t_ k => XS.iload X79.here hx rfl (hb hby at_443) rfl k) ?_
                                  show WP p e below _ (T79.setTop (mkF m 445 #[.val (.int p1), .val (.int p2), .val (.int p3), .val (.long q4), .second, .val (.long q5), .second, .val (.int z2_S0), .val (.int z5_S0), .val (.int z8_S0), .val (.int z11_S0), .val (.int z14_S0), .val (.int vi16), .val (.int z18_S0), .val (.int vi20), .val (.int z22_S0), .val (.int vi24), .val (.int vi25), .val (.int z27_S0), .val (.int z30_S0), .val (.int vi32), .val (.int z34_S0), .val (.int vi36), .val (.int vi37), .val (.int z39_S0), .val (.int z42_S0), .val (.int vi44), .val (.int z46_S0), .val (.int vi48), .val (.int z50_S0), .val (.ref sa52), .val (.ref sa53), .val (.ref sa54), .val (.ref sa55), .val (.ref b56), .val (.ref b61), .unset, .unset, .unset, .unset, .unset, .unset, .unset, .unset, .unset] [(.int vi37), (.int vi36), (.int vi32)]))
                                  refine own_go (fun t_ k => XS.iload X79.here hx rfl (hb hby at_445) rfl k) ?_
                                  show WP p e below _ (T79.setTop (mkF m 447 #[.val (.int p1), .val (.int p2), .val (.int p3), .val (.long q4), .second, .val (.long q5), .second, .val (.int z2_S0), .val (.int z5_S0), .val (.int z8_S0), .val (.int z11_S0), .val (.int z14_S0), .val (.int vi16), .val (.int z18_S0), .val (.int vi20), .val (.int z22_S0), .val (.int vi24), .val (.int vi25), .val (.int z27_S0), .val (.int z30_S0), .val (.int vi32), .val (.int z34_S0), .val (.int vi36), .val (.int vi37), .val (.int z39_S0), .val (.int z42_S0), .val (.int vi44), .val (.int z46_S0), .val (.int vi48), .val (.int z50_S0), .val (.ref sa52), .val (.ref sa53), .val (.ref sa54), .val (.ref sa55), .val (.ref b56), .val (.ref b61), .unset, .unset, .unset, .unset, .unset, .unset, .unset, .unset, .unset] [(.int z34_S0), (.int vi37), (.int vi36), (.int vi32)]))
                                  refine own_go (fun t_ k => XS.iload X79.here hx rfl (hb hby at_447) rfl k) ?_
                                  show WP p e below _ (T79.setTop (mkF m 449 #[.val (.int p1), .val (.int p2), .val (.int p3), .val (.long q4), .second, .val (.long q5), .second, .val (.int z2_S0), .val (.int z5_S0), .val (.int z8_S0), .val (.int z11_S0), .val (.int z14_S0), .val (.int vi16), .val (.int z18_S0), .val (.int vi20), .val (.int z22_S0), .val (.int vi24), .val (.int vi25), .val (.int z27_S0), .val (.int z30_S0), .val (.int vi32), .val (.int z34_S0), .val (.int vi36), .val (.int vi37), .val (.int z39_S0), .val (.int z42_S0), .val (.int vi44), .val (.int z46_S0), .val (.int vi48), .val (.int z50_S0), .val (.ref sa52), .val (.ref sa53), .val (.ref sa54), .val (.ref sa55), .val (.ref b56), .val (.ref b61), .unset, .unset, .unset, .unset, .unset, .unset, .unset, .unset, .unset] [(.int z39_S0), (.int z34_S0), (.int vi37), (.int vi36), (.int vi32)]))
                                  refine own_go (fun t_ k => XS.iload X79.here hx rfl (hb hby at_449) rfl k) ?_
                                  show WP p e below _ (T79.setTop (mkF m 451 #[.val (.int p1), .val (.int p2), .val (.int p3), .val (.long q4), .second, .val (.long q5), .second, .val (.int z2_S0), .val (.int z5_S0), .val (.int z8_S0), .val (.int z11_S0), .val (.int z14_S0), .val (.int vi16), .val (.int z18_S0), .val (.int vi20), .val (.int z22_S0), .val (.int vi24), .val (.int vi25), .val (.int z27_S0), .val (.int z30_S0), .val (.int vi32), .val (.int z34_S0), .val (.int vi36), .val (.int vi37), .val (.int z39_S0), .val (.int z42_S0), .val (.int vi44), .val (.int z46_S0), .val (.int vi48), .val (.int z50_S0), .val (.ref sa52), .val (.ref sa53), .val (.ref sa54), .val (.ref sa55), .val (.ref b56), .val (.ref b61), .unset, .unset, .unset, .unset, .unset, .unset, .unset, .unset, .unset] [(.int z42_S0), (.int z39_S0), (.int z34_S0), (.int vi37), (.int vi36), (.int vi32)]))
                                  obtain ⟨_, T81, Lc81, X81, hQ81, st81⟩ := own_un X79 0 0 (Jvm.LawKit.callS X79 hx (y := (⟨"com/example/covenant_atlas/covenantatlas/model/OutlineEntryEqualsPinLaw", "sameStr", "(IIIIII)Z"⟩ : MethodName)) hown (mvT hZ (hw _ (List.mem_of_getElem? (i := 56) rfl))) (mvT hZ (hw _ (List.mem_of_getElem? (i := 57) rfl))) (mvT hZ (hw _ (List.mem_of_getElem? (i := 2) rfl))) (mvT hZ (hw _ (List.mem_of_getElem? (i := 58) rfl))) (by decide) (backOf (W := 0) (rm8 l Z a0 hw [] vi32 vi36 vi37 z34_S0 z39_S0 z42_S0 T65.heap n0) hZ (hw _ (List.mem_of_getElem? (i := 58) rfl)) (hw _ (List.mem_of_getElem? (i := 2) rfl)) (by decide) (by decide)) (g := (mkF m 451 #[.val (.int p1), .val (.int p2), .val (.int p3), .val (.long q4), .second, .val (.long q5), .second, .val (.int z2_S0), .val (.int z5_S0), .val (.int z8_S0), .val (.int z11_S0), .val (.int z14_S0), .val (.int vi16), .val (.int z18_S0), .val (.int vi20), .val (.int z22_S0), .val (.int vi24), .val (.int vi25), .val (.int z27_S0), .val (.int z30_S0), .val (.int vi32), .val (.int z34_S0), .val (.int vi36), .val (.int vi37), .val (.int z39_S0), .val (.int z42_S0), .val (.int vi44), .val (.int z46_S0), .val (.int vi48), .val (.int z50_S0), .val (.ref sa52), .val (.ref sa53), .val (.ref sa54), .val (.ref sa55), .val (.ref b56), .val (.ref b61), .unset, .unset, .unset, .unset, .unset, .unset, .unset, .unset, .unset] [(.int z42_S0), (.int z39_S0), (.int z34_S0), (.int vi37), (.int vi36), (.int vi32)])) rfl (by rw [hml]; rfl) (argsL := [(.int vi32), (.int vi36), (.int vi37), (.int z34_S0), (.int z39_S0), (.int z42_S0)]) (rest := []) (lenOf pd_11 rfl) rfl (by show 2 * 0 + _ ≤ _; exact Nat.le_of_eq rfl) (hb hby at_451) (fun _ _ => ⟨rfl, e79, (by decide : 18 + 0 ≤ _), (by decide : 42 + 0 ≤ _)⟩))
                                  dsimp only [Pt.U] at st81
                                  have er81 : T81.heap = T81.heap := rfl
                                  obtain ⟨rfl, N81q, e81⟩ := hQ81
                                  have N81 := Fr.app N79 N81q
                                  replace X81 : Stand p l e room_1 (s.setVm T55.vm) m _ below meth c T81 _ 18 42 := X81
                                  refine own_go st81 ?_
                                  show WP p e below _ (T81.setTop (mkF m 454 #[.val (.int p1), .val (.int p2), .val (.int p3), .val (.long q4), .second, .val (.long q5), .second, .val (.int z2_S0), .val (.int z5_S0), .val (.int z8_S0), .val (.int z11_S0), .val (.int z14_S0), .val (.int vi16), .val (.int z18_S0), .val (.int vi20), .val (.int z22_S0), .val (.int vi24), .val (.int vi25), .val (.int z27_S0), .val (.int z30_S0), .val (.int vi32), .val (.int z34_S0), .val (.int vi36), .val (.int vi37), .val (.int z39_S0), .val (.int z42_S0), .val (.int vi44), .val (.int z46_S0), .val (.int vi48), .val (.int z50_S0), .val (.ref sa52), .val (.ref sa53), .val (.ref sa54), .val (.ref sa55), .val (.ref b56), .val (.ref b61), .unset, .unset, .unset, .unset, .unset, .unset, .unset, .unset, .unset] [(.int (f8 vi32 vi36 vi37 z34_S0 z39_S0 z42_S0))]))
                                  by_cases hc454_82 : (f8 vi32 vi36 vi37 z34_S0 z39_S0 z42_S0) = (0 : Int32)
                                  · refine own_go (fun t_ k => XS.ifYes X81.here hx rfl (pc0 := 454) (pc' := 475) rfl (hb hby at_454) rfl ((if0 _ _).trans (teq hc454_82).1) (by decide) (by decide) k) ?_
                                    show WP p e below _ (T81.setTop (mkF m 475 #[.val (.int p1), .val (.int p2), .val (.int p3), .val (.long q4), .second, .val (.long q5), .second, .val (.int z2_S0), .val (.int z5_S0), .val (.int z8_S0), .val (.int z11_S0), .val (.int z14_S0), .val (.int vi16), .val (.int z18_S0), .val (.int vi20), .val (.int z22_S0), .val (.int vi24), .val (.int vi25), .val (.int z27_S0), .val (.int z30_S0), .val (.int vi32), .val (.int z34_S0), .val (.int vi36), .val (.int vi37), .val (.int z39_S0), .val (.int z42_S0), .val (.int vi44), .val (.int z46_S0), .val (.int vi48), .val (.int z50_S0), .val (.ref sa52), .val (.ref sa53), .val (.ref sa54), .val (.ref sa55), .val (.ref b56), .val (.ref b61), .unset, .unset, .unset, .unset, .unset, .unset, .unset, .unset, .unset] []))
                                    refine own_go (fun t_ k => XS.iconst X81.here hx rfl (hb hby at_475) k) ?_
                                    show WP p e below _ (T81.setTop (mkF m 476 #[.val (.int p1), .val (.int p2), .val (.int p3), .val (.long q4), .second, .val (.long q5), .second, .val (.int z2_S0), .val (.int z5_S0), .val (.int z8_S0), .val (.int z11_S0), .val (.int z14_S0), .val (.int vi16), .val (.int z18_S0), .val (.int vi20), .val (.int z22_S0), .val (.int vi24), .val (.int vi25), .val (.int z27_S0), .val (.int z30_S0), .val (.int vi32), .val (.int z34_S0), .val (.int vi36), .val (.int vi37), .val (.int z39_S0), .val (.int z42_S0), .val (.int vi44), .val (.int z46_S0), .val (.int vi48), .val (.int z50_S0), .val (.ref sa52), .val (.ref sa53), .val (.ref sa54), .val (.ref sa55), .val (.ref b56), .val (.ref b61), .unset, .unset, .unset, .unset, .unset, .unset, .unset, .unset, .unset] [(.int (0 : Int32))]))
                                    exact J68 T81 _ X81 N81 e81 _ (by rw [if_pos hc418_66, if_neg hc436_80, if_pos hc454_82])
                                  · refine own_go (fun t_ k => XS.ifNo X81.here hx rfl (hb hby at_454) rfl ((if0 _ _).trans (feq hc454_82).1) k) ?_
                                    show WP p e below _ (T81.setTop (mkF m 457 #[.val (.int p1), .val (.int p2), .val (.int p3), .val (.long q4), .second, .val (.long q5), .second, .val (.int z2_S0), .val (.int z5_S0), .val (.int z8_S0), .val (.int z11_S0), .val (.int z14_S0), .val (.int vi16), .val (.int z18_S0), .val (.int vi20), .val (.int z22_S0), .val (.int vi24), .val (.int vi25), .val (.int z27_S0), .val (.int z30_S0), .val (.int vi32), .val (.int z34_S0), .val (.int vi36), .val (.int vi37), .val (.int z39_S0), .val (.int z42_S0), .val (.int vi44), .val (.int z46_S0), .val (.int vi48), .val (.int z50_S0), .val (.ref sa52), .val (.ref sa53), .val (.ref sa54), .val (.ref sa55), .val (.ref b56), .val (.ref b61), .unset, .unset, .unset, .unset, .unset, .unset, .unset, .unset, .unset] []))
                                    refine own_go (fun t_ k => XS.iload X81.here hx rfl (hb hby at_457) rfl k) ?_
                                    show WP p e below _ (T81.setTop (mkF m 459 #[.val (.int p1), .val (.int p2), .val (.int p3), .val (.long q4), .second, .val (.long q5), .second, .val (.int z2_S0), .val (.int z5_S0), .val (.int z8_S0), .val (.int z11_S0), .val (.int z14_S0), .val (.int vi16), .val (.int z18_S0), .val (.int vi20), .val (.int z22_S0), .val (.int vi24), .val (.int vi25), .val (.int z27_S0), .val (.int z30_S0), .val (.int vi32), .val (.int z34_S0), .val (.int vi36), .val (.int vi37), .val (.int z39_S0), .val (.int z42_S0), .val (.int vi44), .val (.int z46_S0), .val (.int vi48), .val (.int z50_S0), .val (.ref sa52), .val (.ref sa53), .val (.ref sa54), .val (.ref sa55), .val (.ref b56), .val (.ref b61), .unset, .unset, .unset, .unset, .unset, .unset, .unset, .unset, .unset] [(.int vi44)]))
                                    refine own_go (fun t_ k => XS.iload X81.here hx rfl (hb hby at_459) rfl k) ?_
                                    show WP p e below _ (T81.setTop (mkF m 461 #[.val (.int p1), .val (.int p2), .val (.int p3), .val (.long q4), .second, .val (.long q5), .second, .val (.int z2_S0), .val (.int z5_S0), .val (.int z8_S0), .val (.int z11_S0), .val (.int z14_S0), .val (.int vi16), .val (.int z18_S0), .val (.int vi20), .val (.int z22_S0), .val (.int vi24), .val (.int vi25), .val (.int z27_S0), .val (.int z30_S0), .val (.int vi32), .val (.int z34_S0), .val (.int vi36), .val (.int vi37), .val (.int z39_S0), .val (.int z42_S0), .val (.int vi44), .val (.int z46_S0), .val (.int vi48), .val (.int z50_S0), .val (.ref sa52), .val (.ref sa53), .val (.ref sa54), .val (.ref sa55), .val (.ref b56), .val (.ref b61), .unset, .unset, .unset, .unset, .unset, .unset, .unset, .unset, .unset] [(.int z46_S0), (.int vi44)]))
                                    by_cases hc461_83 : vi44 = z46_S0
                                    · refine own_go (fun t_ k => XS.icmpNo X81.here hx rfl (hb hby at_461) rfl (teq hc461_83).2 k) ?_
                                      show WP p e below _ (T81.setTop (mkF m 464 #[.val (.int p1), .val (.int p2), .val (.int p3), .val (.long q4), .second, .val (.long q5), .second, .val (.int z2_S0), .val (.int z5_S0), .val (.int z8_S0), .val (.int z11_S0), .val (.int z14_S0), .val (.int vi16), .val (.int z18_S0), .val (.int vi20), .val (.int z22_S0), .val (.int vi24), .val (.int vi25), .val (.int z27_S0), .val (.int z30_S0), .val (.int vi32), .val (.int z34_S0), .val (.int vi36), .val (.int vi37), .val (.int z39_S0), .val (.int z42_S0), .val (.int vi44), .val (.int z46_S0), .val (.int vi48), .val (.int z50_S0), .val (.ref sa52), .val (.ref sa53), .val (.ref sa54), .val (.ref sa55), .val (.ref b56), .val (.ref b61), .unset, .unset, .unset, .unset, .unset, .unset, .unset, .unset, .unset] []))
                                      refine own_go (fun t_ k => XS.iload X81.here hx rfl (hb hby at_464) rfl k) ?_
                                      show WP p e below _ (T81.setTop (mkF m 466 #[.val (.int p1), .val (.int p2), .val (.int p3), .val (.long q4), .second, .val (.long q5), .second, .val (.int z2_S0), .val (.int z5_S0), .val (.int z8_S0), .val (.int z11_S0), .val (.int z14_S0), .val (.int vi16), .val (.int z18_S0), .val (.int vi20), .val (.int z22_S0), .val (.int vi24), .val (.int vi25), .val (.int z27_S0), .val (.int z30_S0), .val (.int vi32), .val (.int z34_S0), .val (.int vi36), .val (.int vi37), .val (.int z39_S0), .val (.int z42_S0), .val (.int vi44), .val (.int z46_S0), .val (.int vi48), .val (.int z50_S0), .val (.ref sa52), .val (.ref sa53), .val (.ref sa54), .val (.ref sa55), .val (.ref b56), .val (.ref b61), .unset, .unset, .unset, .unset, .unset, .unset, .unset, .unset, .unset] [(.int vi48)]))
                                      refine own_go (fun t_ k => XS.iload X81.here hx rfl (hb hby at_466) rfl k) ?_
                                      show WP p e below _ (T81.setTop (mkF m 468 #[.val (.int p1), .val (.int p2), .val (.int p3), .val (.long q4), .second, .val (.long q5), .second, .val (.int z2_S0), .val (.int z5_S0), .val (.int z8_S0), .val (.int z11_S0), .val (.int z14_S0), .val (.int vi16), .val (.int z18_S0), .val (.int vi20), .val (.int z22_S0), .val (.int vi24), .val (.int vi25), .val (.int z27_S0), .val (.int z30_S0), .val (.int vi32), .val (.int z34_S0), .val (.int vi36), .val (.int vi37), .val (.int z39_S0), .val (.int z42_S0), .val (.int vi44), .val (.int z46_S0), .val (.int vi48), .val (.int z50_S0), .val (.ref sa52), .val (.ref sa53), .val (.ref sa54), .val (.ref sa55), .val (.ref b56), .val (.ref b61), .unset, .unset, .unset, .unset, .unset, .unset, .unset, .unset, .unset] [(.int z50_S0), (.int vi48)]))
                                      by_cases hc468_84 : vi48 = z50_S0
                                      · refine own_go (fun t_ k => XS.icmpNo X81.here hx rfl (hb hby at_468) rfl (teq hc468_84).2 k) ?_
                                        show WP p e below _ (T81.setTop (mkF m 471 #[.val (.int p1), .val (.int p2), .val (.int p3), .val (.long q4), .second, .val (.long q5), .second, .val (.int z2_S0), .val (.int z5_S0), .val (.int z8_S0), .val (.int z11_S0), .val (.int z14_S0), .val (.int vi16), .val (.int z18_S0), .val (.int vi20), .val (.int z22_S0), .val (.int vi24), .val (.int vi25), .val (.int z27_S0), .val (.int z30_S0), .val (.int vi32), .val (.int z34_S0), .val (.int vi36), .val (.int vi37), .val (.int z39_S0), .val (.int z42_S0), .val (.int vi44), .val (.int z46_S0), .val (.int vi48), .val (.int z50_S0), .val (.ref sa52), .val (.ref sa53), .val (.ref sa54), .val (.ref sa55), .val (.ref b56), .val (.ref b61), .unset, .unset, .unset, .unset, .unset, .unset, .unset, .unset, .unset] []))
                                        refine own_go (fun t_ k => XS.iconst X81.here hx rfl (hb hby at_471) k) ?_
                                        show WP p e below _ (T81.setTop (mkF m 472 #[.val (.int p1), .val (.int p2), .val (.int p3), .val (.long q4), .second, .val (.long q5), .second, .val (.int z2_S0), .val (.int z5_S0), .val (.int z8_S0), .val (.int z11_S0), .val (.int z14_S0), .val (.int vi16), .val (.int z18_S0), .val (.int vi20), .val (.int z22_S0), .val (.int vi24), .val (.int vi25), .val (.int z27_S0), .val (.int z30_S0), .val (.int vi32), .val (.int z34_S0), .val (.int vi36), .val (.int vi37), .val (.int z39_S0), .val (.int z42_S0), .val (.int vi44), .val (.int z46_S0), .val (.int vi48), .val (.int z50_S0), .val (.ref sa52), .val (.ref sa53), .val (.ref sa54), .val (.ref sa55), .val (.ref b56), .val (.ref b61), .unset, .unset, .unset, .unset, .unset, .unset, .unset, .unset, .unset] [(.int (1 : Int32))]))
                                        refine own_go (fun t_ k => XS.goto X81.here hx rfl (pc0 := 472) (pc' := 476) rfl (hb hby at_472) (by decide) (by decide) k) ?_
                                        show WP p e below _ (T81.setTop (mkF m 476 #[.val (.int p1), .val (.int p2), .val (.int p3), .val (.long q4), .second, .val (.long q5), .second, .val (.int z2_S0), .val (.int z5_S0), .val (.int z8_S0), .val (.int z11_S0), .val (.int z14_S0), .val (.int vi16), .val (.int z18_S0), .val (.int vi20), .val (.int z22_S0), .val (.int vi24), .val (.int vi25), .val (.int z27_S0), .val (.int z30_S0), .val (.int vi32), .val (.int z34_S0), .val (.int vi36), .val (.int vi37), .val (.int z39_S0), .val (.int z42_S0), .val (.int vi44), .val (.int z46_S0), .val (.int vi48), .val (.int z50_S0), .val (.ref sa52), .val (.ref sa53), .val (.ref sa54), .val (.ref sa55), .val (.ref b56), .val (.ref b61), .unset, .unset, .unset, .unset, .unset, .unset, .unset, .unset, .unset] [(.int (1 : Int32))]))
                                        exact J68 T81 _ X81 N81 e81 _ (by rw [if_pos hc418_66, if_neg hc436_80, if_neg hc454_82, if_pos hc461_83, if_pos hc468_84])
                                      · refine own_go (fun t_ k => XS.icmpYes X81.here hx rfl (pc0 := 468) (pc' := 475) rfl (hb hby at_468) rfl (feq hc468_84).2 (by decide) (by decide) k) ?_
                                        show WP p e below _ (T81.setTop (mkF m 475 #[.val (.int p1), .val (.int p2), .val (.int p3), .val (.long q4), .second, .val (.long q5), .second, .val (.int z2_S0), .val (.int z5_S0), .val (.int z8_S0), .val (.int z11_S0), .val (.int z14_S0), .val (.int vi16), .val (.int z18_S0), .val (.int vi20), .val (.int z22_S0), .val (.int vi24), .val (.int vi25), .val (.int z27_S0), .val (.int z30_S0), .val (.int vi32), .val (.int z34_S0), .val (.int vi36), .val (.int vi37), .val (.int z39_S0), .val (.int z42_S0), .val (.int vi44), .val (.int z46_S0), .val (.int vi48), .val (.int z50_S0), .val (.ref sa52), .val (.ref sa53), .val (.ref sa54), .val (.ref sa55), .val (.ref b56), .val (.ref b61), .unset, .unset, .unset, .unset, .unset, .unset, .unset, .unset, .unset] []))
                                        refine own_go (fun t_ k => XS.iconst X81.here hx rfl (hb hby at_475) k) ?_
                                        show WP p e below _ (T81.setTop (mkF m 476 #[.val (.int p1), .val (.int p2), .val (.int p3), .val (.long q4), .second, .val (.long q5), .second, .val (.int z2_S0), .val (.int z5_S0), .val (.int z8_S0), .val (.int z11_S0), .val (.int z14_S0), .val (.int vi16), .val (.int z18_S0), .val (.int vi20), .val (.int z22_S0), .val (.int vi24), .val (.int vi25), .val (.int z27_S0), .val (.int z30_S0), .val (.int vi32), .val (.int z34_S0), .val (.int vi36), .val (.int vi37), .val (.int z39_S0), .val (.int z42_S0), .val (.int vi44), .val (.int z46_S0), .val (.int vi48), .val (.int z50_S0), .val (.ref sa52), .val (.ref sa53), .val (.ref sa54), .val (.ref sa55), .val (.ref b56), .val (.ref b61), .unset, .unset, .unset, .unset, .unset, .unset, .unset, .unset, .unset] [(.int (0 : Int32))]))
                                        exact J68 T81 _ X81 N81 e81 _ (by rw [if_pos hc418_66, if_neg hc436_80, if_neg hc454_82, if_pos hc461_83, if_neg hc468_84])
                                    · refine own_go (fun t_ k => XS.icmpYes X81.here hx rfl (pc0 := 461) (pc' := 475) rfl (hb hby at_461) rfl (feq hc461_83).2 (by decide) (by decide) k) ?_
                                      show WP p e below _ (T81.setTop (mkF m 475 #[.val (.int p1), .val (.int p2), .val (.int p3), .val (.long q4), .second, .val (.long q5), .second, .val (.int z2_S0), .val (.int z5_S0), .val (.int z8_S0), .val (.int z11_S0), .val (.int z14_S0), .val (.int vi16), .val (.int z18_S0), .val (.int vi20), .val (.int z22_S0), .val (.int vi24), .val (.int vi25), .val (.int z27_S0), .val (.int z30_S0), .val (.int vi32), .val (.int z34_S0), .val (.int vi36), .val (.int vi37), .val (.int z39_S0), .val (.int z42_S0), .val (.int vi44), .val (.int z46_S0), .val (.int vi48), .val (.int z50_S0), .val (.ref sa52), .val (.ref sa53), .val (.ref sa54), .val (.ref sa55), .val (.ref b56), .val (.ref b61), .unset, .unset, .unset, .unset, .unset, .unset, .unset, .unset, .unset] []))
                                      refine own_go (fun t_ k => XS.iconst X81.here hx rfl (hb hby at_475) k) ?_
                                      show WP p e below _ (T81.setTop (mkF m 476 #[.val (.int p1), .val (.int p2), .val (.int p3), .val (.long q4), .second, .val (.long q5), .second, .val (.int z2_S0), .val (.int z5_S0), .val (.int z8_S0), .val (.int z11_S0), .val (.int z14_S0), .val (.int vi16), .val (.int z18_S0), .val (.int vi20), .val (.int z22_S0), .val (.int vi24), .val (.int vi25), .val (.int z27_S0), .val (.int z30_S0), .val (.int vi32), .val (.int z34_S0), .val (.int vi36), .val (.int vi37), .val (.int z39_S0), .val (.int z42_S0), .val (.int vi44), .val (.int z46_S0), .val (.int vi48), .val (.int z50_S0), .val (.ref sa52), .val (.ref sa53), .val (.ref sa54), .val (.ref sa55), .val (.ref b56), .val (.ref b61), .unset, .unset, .unset, .unset, .unset, .unset, .unset, .unset, .unset] [(.int (0 : Int32))]))
                                      exact J68 T81 _ X81 N81 e81 _ (by rw [if_pos hc418_66, if_neg hc436_80, if_neg hc454_82, if_neg hc461_83])
                              · refine own_go (fun t_ k => XS.icmpYes X65.here hx rfl (pc0 := 418) (pc' := 475) rfl (hb hby at_418) rfl (feq hc418_66).2 (by decide) (by decide) k) ?_
                                show WP p e below _ (T65.setTop (mkF m 475 #[.val (.int p1), .val (.int p2), .val (.int p3), .val (.long q4), .second, .val (.long q5), .second, .val (.int z2_S0), .val (.int z5_S0), .val (.int z8_S0), .val (.int z11_S0), .val (.int z14_S0), .val (.int vi16), .val (.int z18_S0), .val (.int vi20), .val (.int z22_S0), .val (.int vi24), .val (.int vi25), .val (.int z27_S0), .val (.int z30_S0), .val (.int vi32), .val (.int z34_S0), .val (.int vi36), .val (.int vi37), .val (.int z39_S0), .val (.int z42_S0), .val (.int vi44), .val (.int z46_S0), .val (.int vi48), .val (.int z50_S0), .val (.ref sa52), .val (.ref sa53), .val (.ref sa54), .val (.ref sa55), .val (.ref b56), .val (.ref b61), .unset, .unset, .unset, .unset, .unset, .unset, .unset, .unset, .unset] []))
                                refine own_go (fun t_ k => XS.iconst X65.here hx rfl (hb hby at_475) k) ?_
                                show WP p e below _ (T65.setTop (mkF m 476 #[.val (.int p1), .val (.int p2), .val (.int p3), .val (.long q4), .second, .val (.long q5), .second, .val (.int z2_S0), .val (.int z5_S0), .val (.int z8_S0), .val (.int z11_S0), .val (.int z14_S0), .val (.int vi16), .val (.int z18_S0), .val (.int vi20), .val (.int z22_S0), .val (.int vi24), .val (.int vi25), .val (.int z27_S0), .val (.int z30_S0), .val (.int vi32), .val (.int z34_S0), .val (.int vi36), .val (.int vi37), .val (.int z39_S0), .val (.int z42_S0), .val (.int vi44), .val (.int z46_S0), .val (.int vi48), .val (.int z50_S0), .val (.ref sa52), .val (.ref sa53), .val (.ref sa54), .val (.ref sa55), .val (.ref b56), .val (.ref b61), .unset, .unset, .unset, .unset, .unset, .unset, .unset, .unset, .unset] [(.int (0 : Int32))]))
                                exact J68 T65 _ X65 N65 er65 _ (by rw [if_neg hc418_66])
                            by_cases hc313_49 : z14_S0 = (0 : Int32)
                            · refine own_go (fun t_ k => XS.ifYes X47.here hx rfl (pc0 := 313) (pc' := 321) rfl (hb hby at_313) rfl ((if0 _ _).trans (teq hc313_49).1) (by decide) (by decide) k) ?_
                              show WP p e below _ (T47.setTop (mkF m 321 #[.val (.int p1), .val (.int p2), .val (.int p3), .val (.long q4), .second, .val (.long q5), .second, .val (.int z2_S0), .val (.int z5_S0), .val (.int z8_S0), .val (.int z11_S0), .val (.int z14_S0), .val (.int vi16), .val (.int z18_S0), .val (.int vi20), .val (.int z22_S0), .val (.int vi24), .val (.int vi25), .val (.int z27_S0), .val (.int z30_S0), .val (.int vi32), .val (.int z34_S0), .val (.int vi36), .val (.int vi37), .val (.int z39_S0), .val (.int z42_S0), .val (.int vi44), .val (.int z46_S0), .val (.int vi48), .unset, .unset, .unset, .unset, .unset, .unset, .unset, .unset, .unset, .unset, .unset, .unset, .unset, .unset, .unset, .unset] []))
                              refine own_go (fun t_ k => XS.lload X47.here hx rfl (hb hby at_321) rfl k) ?_
                              show WP p e below _ (T47.setTop (mkF m 323 #[.val (.int p1), .val (.int p2), .val (.int p3), .val (.long q4), .second, .val (.long q5), .second, .val (.int z2_S0), .val (.int z5_S0), .val (.int z8_S0), .val (.int z11_S0), .val (.int z14_S0), .val (.int vi16), .val (.int z18_S0), .val (.int vi20), .val (.int z22_S0), .val (.int vi24), .val (.int vi25), .val (.int z27_S0), .val (.int z30_S0), .val (.int vi32), .val (.int z34_S0), .val (.int vi36), .val (.int vi37), .val (.int z39_S0), .val (.int z42_S0), .val (.int vi44), .val (.int z46_S0), .val (.int vi48), .unset, .unset, .unset, .unset, .unset, .unset, .unset, .unset, .unset, .unset, .unset, .unset, .unset, .unset, .unset, .unset] [(.long q5)]))
                              refine own_go (fun t_ k => XS.l2i X47.here hx rfl (hb hby at_323) rfl k) ?_
                              show WP p e below _ (T47.setTop (mkF m 324 #[.val (.int p1), .val (.int p2), .val (.int p3), .val (.long q4), .second, .val (.long q5), .second, .val (.int z2_S0), .val (.int z5_S0), .val (.int z8_S0), .val (.int z11_S0), .val (.int z14_S0), .val (.int vi16), .val (.int z18_S0), .val (.int vi20), .val (.int z22_S0), .val (.int vi24), .val (.int vi25), .val (.int z27_S0), .val (.int z30_S0), .val (.int vi32), .val (.int z34_S0), .val (.int vi36), .val (.int vi37), .val (.int z39_S0), .val (.int z42_S0), .val (.int vi44), .val (.int z46_S0), .val (.int vi48), .unset, .unset, .unset, .unset, .unset, .unset, .unset, .unset, .unset, .unset, .unset, .unset, .unset, .unset, .unset, .unset] [(.int (q5.toInt32))]))
                              exact J51 T47 _ X47 N47 e47 _ (by rw [if_pos hc313_49])
                            · refine own_go (fun t_ k => XS.ifNo X47.here hx rfl (hb hby at_313) rfl ((if0 _ _).trans (feq hc313_49).1) k) ?_
                              show WP p e below _ (T47.setTop (mkF m 316 #[.val (.int p1), .val (.int p2), .val (.int p3), .val (.long q4), .second, .val (.long q5), .second, .val (.int z2_S0), .val (.int z5_S0), .val (.int z8_S0), .val (.int z11_S0), .val (.int z14_S0), .val (.int vi16), .val (.int z18_S0), .val (.int vi20), .val (.int z22_S0), .val (.int vi24), .val (.int vi25), .val (.int z27_S0), .val (.int z30_S0), .val (.int vi32), .val (.int z34_S0), .val (.int vi36), .val (.int vi37), .val (.int z39_S0), .val (.int z42_S0), .val (.int vi44), .val (.int z46_S0), .val (.int vi48), .unset, .unset, .unset, .unset, .unset, .unset, .unset, .unset, .unset, .unset, .unset, .unset, .unset, .unset, .unset, .unset] []))
                              refine own_go (fun t_ k => XS.iload X47.here hx rfl (hb hby at_316) rfl k) ?_
                              show WP p e below _ (T47.setTop (mkF m 318 #[.val (.int p1), .val (.int p2), .val (.int p3), .val (.long q4), .second, .val (.long q5), .second, .val (.int z2_S0), .val (.int z5_S0), .val (.int z8_S0), .val (.int z11_S0), .val (.int z14_S0), .val (.int vi16), .val (.int z18_S0), .val (.int vi20), .val (.int z22_S0), .val (.int vi24), .val (.int vi25), .val (.int z27_S0), .val (.int z30_S0), .val (.int vi32), .val (.int z34_S0), .val (.int vi36), .val (.int vi37), .val (.int z39_S0), .val (.int z42_S0), .val (.int vi44), .val (.int z46_S0), .val (.int vi48), .unset, .unset, .unset, .unset, .unset, .unset, .unset, .unset, .unset, .unset, .unset, .unset, .unset, .unset, .unset, .unset] [(.int vi48)]))
                              refine own_go (fun t_ k => XS.goto X47.here hx rfl (pc0 := 318) (pc' := 324) rfl (hb hby at_318) (by decide) (by decide) k) ?_
                              show WP p e below _ (T47.setTop (mkF m 324 #[.val (.int p1), .val (.int p2), .val (.int p3), .val (.long q4), .second, .val (.long q5), .second, .val (.int z2_S0), .val (.int z5_S0), .val (.int z8_S0), .val (.int z11_S0), .val (.int z14_S0), .val (.int vi16), .val (.int z18_S0), .val (.int vi20), .val (.int z22_S0), .val (.int vi24), .val (.int vi25), .val (.int z27_S0), .val (.int z30_S0), .val (.int vi32), .val (.int z34_S0), .val (.int vi36), .val (.int vi37), .val (.int z39_S0), .val (.int z42_S0), .val (.int vi44), .val (.int z46_S0), .val (.int vi48), .unset, .unset, .unset, .unset, .unset, .unset, .unset, .unset, .unset, .unset, .unset, .unset, .unset, .unset, .unset, .unset] [(.int vi48)]))
                              exact J51 T47 _ X47 N47 e47 _ (by rw [if_neg hc313_49])
                          by_cases hc291_45 : z11_S0 = (0 : Int32)
                          · refine own_go (fun t_ k => XS.ifYes X43.here hx rfl (pc0 := 291) (pc' := 299) rfl (hb hby at_291) rfl ((if0 _ _).trans (teq hc291_45).1) (by decide) (by decide) k) ?_
                            show WP p e below _ (T43.setTop (mkF m 299 #[.val (.int p1), .val (.int p2), .val (.int p3), .val (.long q4), .second, .val (.long q5), .second, .val (.int z2_S0), .val (.int z5_S0), .val (.int z8_S0), .val (.int z11_S0), .val (.int z14_S0), .val (.int vi16), .val (.int z18_S0), .val (.int vi20), .val (.int z22_S0), .val (.int vi24), .val (.int vi25), .val (.int z27_S0), .val (.int z30_S0), .val (.int vi32), .val (.int z34_S0), .val (.int vi36), .val (.int vi37), .val (.int z39_S0), .val (.int z42_S0), .val (.int vi44), .unset, .unset, .unset, .unset, .unset, .unset, .unset, .unset, .unset, .unset, .unset, .unset, .unset, .unset, .unset, .unset, .unset, .unset] []))
                            refine own_go (fun t_ k => XS.lloadN X43.here hx rfl (hb hby at_299) rfl k) ?_
                            show WP p e below _ (T43.setTop (mkF m 300 #[.val (.int p1), .val (.int p2), .val (.int p3), .val (.long q4), .second, .val (.long q5), .second, .val (.int z2_S0), .val (.int z5_S0), .val (.int z8_S0), .val (.int z11_S0), .val (.int z14_S0), .val (.int vi16), .val (.int z18_S0), .val (.int vi20), .val (.int z22_S0), .val (.int vi24), .val (.int vi25), .val (.int z27_S0), .val (.int z30_S0), .val (.int vi32), .val (.int z34_S0), .val (.int vi36), .val (.int vi37), .val (.int z39_S0), .val (.int z42_S0), .val (.int vi44), .unset, .unset, .unset, .unset, .unset, .unset, .unset, .unset, .unset, .unset, .unset, .unset, .unset, .unset, .unset, .unset, .unset, .unset] [(.long q4)]))
                            refine own_go (fun t_ k => XS.l2i X43.here hx rfl (hb hby at_300) rfl k) ?_
                            show WP p e below _ (T43.setTop (mkF m 301 #[.val (.int p1), .val (.int p2), .val (.int p3), .val (.long q4), .second, .val (.long q5), .second, .val (.int z2_S0), .val (.int z5_S0), .val (.int z8_S0), .val (.int z11_S0), .val (.int z14_S0), .val (.int vi16), .val (.int z18_S0), .val (.int vi20), .val (.int z22_S0), .val (.int vi24), .val (.int vi25), .val (.int z27_S0), .val (.int z30_S0), .val (.int vi32), .val (.int z34_S0), .val (.int vi36), .val (.int vi37), .val (.int z39_S0), .val (.int z42_S0), .val (.int vi44), .unset, .unset, .unset, .unset, .unset, .unset, .unset, .unset, .unset, .unset, .unset, .unset, .unset, .unset, .unset, .unset, .unset, .unset] [(.int (q4.toInt32))]))
                            exact J47 T43 _ X43 N43 e43 _ (by rw [if_pos hc291_45])
                          · refine own_go (fun t_ k => XS.ifNo X43.here hx rfl (hb hby at_291) rfl ((if0 _ _).trans (feq hc291_45).1) k) ?_
                            show WP p e below _ (T43.setTop (mkF m 294 #[.val (.int p1), .val (.int p2), .val (.int p3), .val (.long q4), .second, .val (.long q5), .second, .val (.int z2_S0), .val (.int z5_S0), .val (.int z8_S0), .val (.int z11_S0), .val (.int z14_S0), .val (.int vi16), .val (.int z18_S0), .val (.int vi20), .val (.int z22_S0), .val (.int vi24), .val (.int vi25), .val (.int z27_S0), .val (.int z30_S0), .val (.int vi32), .val (.int z34_S0), .val (.int vi36), .val (.int vi37), .val (.int z39_S0), .val (.int z42_S0), .val (.int vi44), .unset, .unset, .unset, .unset, .unset, .unset, .unset, .unset, .unset, .unset, .unset, .unset, .unset, .unset, .unset, .unset, .unset, .unset] []))
                            refine own_go (fun t_ k => XS.iload X43.here hx rfl (hb hby at_294) rfl k) ?_
                            show WP p e below _ (T43.setTop (mkF m 296 #[.val (.int p1), .val (.int p2), .val (.int p3), .val (.long q4), .second, .val (.long q5), .second, .val (.int z2_S0), .val (.int z5_S0), .val (.int z8_S0), .val (.int z11_S0), .val (.int z14_S0), .val (.int vi16), .val (.int z18_S0), .val (.int vi20), .val (.int z22_S0), .val (.int vi24), .val (.int vi25), .val (.int z27_S0), .val (.int z30_S0), .val (.int vi32), .val (.int z34_S0), .val (.int vi36), .val (.int vi37), .val (.int z39_S0), .val (.int z42_S0), .val (.int vi44), .unset, .unset, .unset, .unset, .unset, .unset, .unset, .unset, .unset, .unset, .unset, .unset, .unset, .unset, .unset, .unset, .unset, .unset] [(.int vi44)]))
                            refine own_go (fun t_ k => XS.goto X43.here hx rfl (pc0 := 296) (pc' := 301) rfl (hb hby at_296) (by decide) (by decide) k) ?_
                            show WP p e below _ (T43.setTop (mkF m 301 #[.val (.int p1), .val (.int p2), .val (.int p3), .val (.long q4), .second, .val (.long q5), .second, .val (.int z2_S0), .val (.int z5_S0), .val (.int z8_S0), .val (.int z11_S0), .val (.int z14_S0), .val (.int vi16), .val (.int z18_S0), .val (.int vi20), .val (.int z22_S0), .val (.int vi24), .val (.int vi25), .val (.int z27_S0), .val (.int z30_S0), .val (.int vi32), .val (.int z34_S0), .val (.int vi36), .val (.int vi37), .val (.int z39_S0), .val (.int z42_S0), .val (.int vi44), .unset, .unset, .unset, .unset, .unset, .unset, .unset, .unset, .unset, .unset, .unset, .unset, .unset, .unset, .unset, .unset, .unset, .unset] [(.int vi44)]))
                            exact J47 T43 _ X43 N43 e43 _ (by rw [if_neg hc291_45])
                        by_cases hc264_41 : z8_S0 = (0 : Int32)
                        · refine own_go (fun t_ k => XS.ifYes X40.here hx rfl (pc0 := 264) (pc' := 272) rfl (hb hby at_264) rfl ((if0 _ _).trans (teq hc264_41).1) (by decide) (by decide) k) ?_
                          show WP p e below _ (T40.setTop (mkF m 272 #[.val (.int p1), .val (.int p2), .val (.int p3), .val (.long q4), .second, .val (.long q5), .second, .val (.int z2_S0), .val (.int z5_S0), .val (.int z8_S0), .val (.int z11_S0), .val (.int z14_S0), .val (.int vi16), .val (.int z18_S0), .val (.int vi20), .val (.int z22_S0), .val (.int vi24), .val (.int vi25), .val (.int z27_S0), .val (.int z30_S0), .val (.int vi32), .val (.int z34_S0), .val (.int vi36), .val (.int vi37), .val (.int z39_S0), .unset, .unset, .unset, .unset, .unset, .unset, .unset, .unset, .unset, .unset, .unset, .unset, .unset, .unset, .unset, .unset, .unset, .unset, .unset, .unset] []))
                          refine own_go (fun t_ k => XS.iloadN X40.here hx rfl (hb hby at_272) rfl k) ?_
                          show WP p e below _ (T40.setTop (mkF m 273 #[.val (.int p1), .val (.int p2), .val (.int p3), .val (.long q4), .second, .val (.long q5), .second, .val (.int z2_S0), .val (.int z5_S0), .val (.int z8_S0), .val (.int z11_S0), .val (.int z14_S0), .val (.int vi16), .val (.int z18_S0), .val (.int vi20), .val (.int z22_S0), .val (.int vi24), .val (.int vi25), .val (.int z27_S0), .val (.int z30_S0), .val (.int vi32), .val (.int z34_S0), .val (.int vi36), .val (.int vi37), .val (.int z39_S0), .unset, .unset, .unset, .unset, .unset, .unset, .unset, .unset, .unset, .unset, .unset, .unset, .unset, .unset, .unset, .unset, .unset, .unset, .unset, .unset] [(.int p3)]))
                          refine own_go (fun t_ k => XS.bipush X40.here hx rfl (hb hby at_273) k) ?_
                          show WP p e below _ (T40.setTop (mkF m 275 #[.val (.int p1), .val (.int p2), .val (.int p3), .val (.long q4), .second, .val (.long q5), .second, .val (.int z2_S0), .val (.int z5_S0), .val (.int z8_S0), .val (.int z11_S0), .val (.int z14_S0), .val (.int vi16), .val (.int z18_S0), .val (.int vi20), .val (.int z22_S0), .val (.int vi24), .val (.int vi25), .val (.int z27_S0), .val (.int z30_S0), .val (.int vi32), .val (.int z34_S0), .val (.int vi36), .val (.int vi37), .val (.int z39_S0), .unset, .unset, .unset, .unset, .unset, .unset, .unset, .unset, .unset, .unset, .unset, .unset, .unset, .unset, .unset, .unset, .unset, .unset, .unset, .unset] [(.int (24 : Int32)), (.int p3)]))
                          refine own_go (fun t_ k => XS.iushr X40.here hx rfl (hb hby at_275) rfl k) ?_
                          show WP p e below _ (T40.setTop (mkF m 276 #[.val (.int p1), .val (.int p2), .val (.int p3), .val (.long q4), .second, .val (.long q5), .second, .val (.int z2_S0), .val (.int z5_S0), .val (.int z8_S0), .val (.int z11_S0), .val (.int z14_S0), .val (.int vi16), .val (.int z18_S0), .val (.int vi20), .val (.int z22_S0), .val (.int vi24), .val (.int vi25), .val (.int z27_S0), .val (.int z30_S0), .val (.int vi32), .val (.int z34_S0), .val (.int vi36), .val (.int vi37), .val (.int z39_S0), .unset, .unset, .unset, .unset, .unset, .unset, .unset, .unset, .unset, .unset, .unset, .unset, .unset, .unset, .unset, .unset, .unset, .unset, .unset, .unset] [(.int ((p3.toUInt32 >>> ((24 : Int32) &&& 31).toUInt32).toInt32))]))
                          refine own_go (fun t_ k => XS.sipush X40.here hx rfl (hb hby at_276) k) ?_
                          show WP p e below _ (T40.setTop (mkF m 279 #[.val (.int p1), .val (.int p2), .val (.int p3), .val (.long q4), .second, .val (.long q5), .second, .val (.int z2_S0), .val (.int z5_S0), .val (.int z8_S0), .val (.int z11_S0), .val (.int z14_S0), .val (.int vi16), .val (.int z18_S0), .val (.int vi20), .val (.int z22_S0), .val (.int vi24), .val (.int vi25), .val (.int z27_S0), .val (.int z30_S0), .val (.int vi32), .val (.int z34_S0), .val (.int vi36), .val (.int vi37), .val (.int z39_S0), .unset, .unset, .unset, .unset, .unset, .unset, .unset, .unset, .unset, .unset, .unset, .unset, .unset, .unset, .unset, .unset, .unset, .unset, .unset, .unset] [(.int (255 : Int32)), (.int ((p3.toUInt32 >>> ((24 : Int32) &&& 31).toUInt32).toInt32))]))
                          refine own_go (fun t_ k => XS.iand X40.here hx rfl (hb hby at_279) rfl k) ?_
                          show WP p e below _ (T40.setTop (mkF m 280 #[.val (.int p1), .val (.int p2), .val (.int p3), .val (.long q4), .second, .val (.long q5), .second, .val (.int z2_S0), .val (.int z5_S0), .val (.int z8_S0), .val (.int z11_S0), .val (.int z14_S0), .val (.int vi16), .val (.int z18_S0), .val (.int vi20), .val (.int z22_S0), .val (.int vi24), .val (.int vi25), .val (.int z27_S0), .val (.int z30_S0), .val (.int vi32), .val (.int z34_S0), .val (.int vi36), .val (.int vi37), .val (.int z39_S0), .unset, .unset, .unset, .unset, .unset, .unset, .unset, .unset, .unset, .unset, .unset, .unset, .unset, .unset, .unset, .unset, .unset, .unset, .unset, .unset] [(.int (((p3.toUInt32 >>> ((24 : Int32) &&& 31).toUInt32).toInt32) &&& (255 : Int32)))]))
                          exact J43 T40 _ X40 N40 e40 _ (by rw [if_pos hc264_41])
                        · refine own_go (fun t_ k => XS.ifNo X40.here hx rfl (hb hby at_264) rfl ((if0 _ _).trans (feq hc264_41).1) k) ?_
                          show WP p e below _ (T40.setTop (mkF m 267 #[.val (.int p1), .val (.int p2), .val (.int p3), .val (.long q4), .second, .val (.long q5), .second, .val (.int z2_S0), .val (.int z5_S0), .val (.int z8_S0), .val (.int z11_S0), .val (.int z14_S0), .val (.int vi16), .val (.int z18_S0), .val (.int vi20), .val (.int z22_S0), .val (.int vi24), .val (.int vi25), .val (.int z27_S0), .val (.int z30_S0), .val (.int vi32), .val (.int z34_S0), .val (.int vi36), .val (.int vi37), .val (.int z39_S0), .unset, .unset, .unset, .unset, .unset, .unset, .unset, .unset, .unset, .unset, .unset, .unset, .unset, .unset, .unset, .unset, .unset, .unset, .unset, .unset] []))
                          refine own_go (fun t_ k => XS.iload X40.here hx rfl (hb hby at_267) rfl k) ?_
                          show WP p e below _ (T40.setTop (mkF m 269 #[.val (.int p1), .val (.int p2), .val (.int p3), .val (.long q4), .second, .val (.long q5), .second, .val (.int z2_S0), .val (.int z5_S0), .val (.int z8_S0), .val (.int z11_S0), .val (.int z14_S0), .val (.int vi16), .val (.int z18_S0), .val (.int vi20), .val (.int z22_S0), .val (.int vi24), .val (.int vi25), .val (.int z27_S0), .val (.int z30_S0), .val (.int vi32), .val (.int z34_S0), .val (.int vi36), .val (.int vi37), .val (.int z39_S0), .unset, .unset, .unset, .unset, .unset, .unset, .unset, .unset, .unset, .unset, .unset, .unset, .unset, .unset, .unset, .unset, .unset, .unset, .unset, .unset] [(.int vi37)]))
                          refine own_go (fun t_ k => XS.goto X40.here hx rfl (pc0 := 269) (pc' := 280) rfl (hb hby at_269) (by decide) (by decide) k) ?_
                          show WP p e below _ (T40.setTop (mkF m 280 #[.val (.int p1), .val (.int p2), .val (.int p3), .val (.long q4), .second, .val (.long q5), .second, .val (.int z2_S0), .val (.int z5_S0), .val (.int z8_S0), .val (.int z11_S0), .val (.int z14_S0), .val (.int vi16), .val (.int z18_S0), .val (.int vi20), .val (.int z22_S0), .val (.int vi24), .val (.int vi25), .val (.int z27_S0), .val (.int z30_S0), .val (.int vi32), .val (.int z34_S0), .val (.int vi36), .val (.int vi37), .val (.int z39_S0), .unset, .unset, .unset, .unset, .unset, .unset, .unset, .unset, .unset, .unset, .unset, .unset, .unset, .unset, .unset, .unset, .unset, .unset, .unset, .unset] [(.int vi37)]))
                          exact J43 T40 _ X40 N40 e40 _ (by rw [if_neg hc264_41])
                      by_cases hc244_38 : z8_S0 = (0 : Int32)
                      · refine own_go (fun t_ k => XS.ifYes X35.here hx rfl (pc0 := 244) (pc' := 252) rfl (hb hby at_244) rfl ((if0 _ _).trans (teq hc244_38).1) (by decide) (by decide) k) ?_
                        show WP p e below _ (T35.setTop (mkF m 252 #[.val (.int p1), .val (.int p2), .val (.int p3), .val (.long q4), .second, .val (.long q5), .second, .val (.int z2_S0), .val (.int z5_S0), .val (.int z8_S0), .val (.int z11_S0), .val (.int z14_S0), .val (.int vi16), .val (.int z18_S0), .val (.int vi20), .val (.int z22_S0), .val (.int vi24), .val (.int vi25), .val (.int z27_S0), .val (.int z30_S0), .val (.int vi32), .val (.int z34_S0), .val (.int vi36), .val (.int vi37), .unset, .unset, .unset, .unset, .unset, .unset, .unset, .unset, .unset, .unset, .unset, .unset, .unset, .unset, .unset, .unset, .unset, .unset, .unset, .unset, .unset] []))
                        refine own_go (fun t_ k => XS.iloadN X35.here hx rfl (hb hby at_252) rfl k) ?_
                        show WP p e below _ (T35.setTop (mkF m 253 #[.val (.int p1), .val (.int p2), .val (.int p3), .val (.long q4), .second, .val (.long q5), .second, .val (.int z2_S0), .val (.int z5_S0), .val (.int z8_S0), .val (.int z11_S0), .val (.int z14_S0), .val (.int vi16), .val (.int z18_S0), .val (.int vi20), .val (.int z22_S0), .val (.int vi24), .val (.int vi25), .val (.int z27_S0), .val (.int z30_S0), .val (.int vi32), .val (.int z34_S0), .val (.int vi36), .val (.int vi37), .unset, .unset, .unset, .unset, .unset, .unset, .unset, .unset, .unset, .unset, .unset, .unset, .unset, .unset, .unset, .unset, .unset, .unset, .unset, .unset, .unset] [(.int p3)]))
                        refine own_go (fun t_ k => XS.bipush X35.here hx rfl (hb hby at_253) k) ?_
                        show WP p e below _ (T35.setTop (mkF m 255 #[.val (.int p1), .val (.int p2), .val (.int p3), .val (.long q4), .second, .val (.long q5), .second, .val (.int z2_S0), .val (.int z5_S0), .val (.int z8_S0), .val (.int z11_S0), .val (.int z14_S0), .val (.int vi16), .val (.int z18_S0), .val (.int vi20), .val (.int z22_S0), .val (.int vi24), .val (.int vi25), .val (.int z27_S0), .val (.int z30_S0), .val (.int vi32), .val (.int z34_S0), .val (.int vi36), .val (.int vi37), .unset, .unset, .unset, .unset, .unset, .unset, .unset, .unset, .unset, .unset, .unset, .unset, .unset, .unset, .unset, .unset, .unset, .unset, .unset, .unset, .unset] [(.int (16 : Int32)), (.int p3)]))
                        refine own_go (fun t_ k => XS.iushr X35.here hx rfl (hb hby at_255) rfl k) ?_
                        show WP p e below _ (T35.setTop (mkF m 256 #[.val (.int p1), .val (.int p2), .val (.int p3), .val (.long q4), .second, .val (.long q5), .second, .val (.int z2_S0), .val (.int z5_S0), .val (.int z8_S0), .val (.int z11_S0), .val (.int z14_S0), .val (.int vi16), .val (.int z18_S0), .val (.int vi20), .val (.int z22_S0), .val (.int vi24), .val (.int vi25), .val (.int z27_S0), .val (.int z30_S0), .val (.int vi32), .val (.int z34_S0), .val (.int vi36), .val (.int vi37), .unset, .unset, .unset, .unset, .unset, .unset, .unset, .unset, .unset, .unset, .unset, .unset, .unset, .unset, .unset, .unset, .unset, .unset, .unset, .unset, .unset] [(.int ((p3.toUInt32 >>> ((16 : Int32) &&& 31).toUInt32).toInt32))]))
                        refine own_go (fun t_ k => XS.sipush X35.here hx rfl (hb hby at_256) k) ?_
                        show WP p e below _ (T35.setTop (mkF m 259 #[.val (.int p1), .val (.int p2), .val (.int p3), .val (.long q4), .second, .val (.long q5), .second, .val (.int z2_S0), .val (.int z5_S0), .val (.int z8_S0), .val (.int z11_S0), .val (.int z14_S0), .val (.int vi16), .val (.int z18_S0), .val (.int vi20), .val (.int z22_S0), .val (.int vi24), .val (.int vi25), .val (.int z27_S0), .val (.int z30_S0), .val (.int vi32), .val (.int z34_S0), .val (.int vi36), .val (.int vi37), .unset, .unset, .unset, .unset, .unset, .unset, .unset, .unset, .unset, .unset, .unset, .unset, .unset, .unset, .unset, .unset, .unset, .unset, .unset, .unset, .unset] [(.int (255 : Int32)), (.int ((p3.toUInt32 >>> ((16 : Int32) &&& 31).toUInt32).toInt32))]))
                        refine own_go (fun t_ k => XS.iand X35.here hx rfl (hb hby at_259) rfl k) ?_
                        show WP p e below _ (T35.setTop (mkF m 260 #[.val (.int p1), .val (.int p2), .val (.int p3), .val (.long q4), .second, .val (.long q5), .second, .val (.int z2_S0), .val (.int z5_S0), .val (.int z8_S0), .val (.int z11_S0), .val (.int z14_S0), .val (.int vi16), .val (.int z18_S0), .val (.int vi20), .val (.int z22_S0), .val (.int vi24), .val (.int vi25), .val (.int z27_S0), .val (.int z30_S0), .val (.int vi32), .val (.int z34_S0), .val (.int vi36), .val (.int vi37), .unset, .unset, .unset, .unset, .unset, .unset, .unset, .unset, .unset, .unset, .unset, .unset, .unset, .unset, .unset, .unset, .unset, .unset, .unset, .unset, .unset] [(.int (((p3.toUInt32 >>> ((16 : Int32) &&& 31).toUInt32).toInt32) &&& (255 : Int32)))]))
                        exact J40 T35 _ X35 N35 e35 _ (by rw [if_pos hc244_38])
                      · refine own_go (fun t_ k => XS.ifNo X35.here hx rfl (hb hby at_244) rfl ((if0 _ _).trans (feq hc244_38).1) k) ?_
                        show WP p e below _ (T35.setTop (mkF m 247 #[.val (.int p1), .val (.int p2), .val (.int p3), .val (.long q4), .second, .val (.long q5), .second, .val (.int z2_S0), .val (.int z5_S0), .val (.int z8_S0), .val (.int z11_S0), .val (.int z14_S0), .val (.int vi16), .val (.int z18_S0), .val (.int vi20), .val (.int z22_S0), .val (.int vi24), .val (.int vi25), .val (.int z27_S0), .val (.int z30_S0), .val (.int vi32), .val (.int z34_S0), .val (.int vi36), .val (.int vi37), .unset, .unset, .unset, .unset, .unset, .unset, .unset, .unset, .unset, .unset, .unset, .unset, .unset, .unset, .unset, .unset, .unset, .unset, .unset, .unset, .unset] []))
                        refine own_go (fun t_ k => XS.iload X35.here hx rfl (hb hby at_247) rfl k) ?_
                        show WP p e below _ (T35.setTop (mkF m 249 #[.val (.int p1), .val (.int p2), .val (.int p3), .val (.long q4), .second, .val (.long q5), .second, .val (.int z2_S0), .val (.int z5_S0), .val (.int z8_S0), .val (.int z11_S0), .val (.int z14_S0), .val (.int vi16), .val (.int z18_S0), .val (.int vi20), .val (.int z22_S0), .val (.int vi24), .val (.int vi25), .val (.int z27_S0), .val (.int z30_S0), .val (.int vi32), .val (.int z34_S0), .val (.int vi36), .val (.int vi37), .unset, .unset, .unset, .unset, .unset, .unset, .unset, .unset, .unset, .unset, .unset, .unset, .unset, .unset, .unset, .unset, .unset, .unset, .unset, .unset, .unset] [(.int vi36)]))
                        refine own_go (fun t_ k => XS.goto X35.here hx rfl (pc0 := 249) (pc' := 260) rfl (hb hby at_249) (by decide) (by decide) k) ?_
                        show WP p e below _ (T35.setTop (mkF m 260 #[.val (.int p1), .val (.int p2), .val (.int p3), .val (.long q4), .second, .val (.long q5), .second, .val (.int z2_S0), .val (.int z5_S0), .val (.int z8_S0), .val (.int z11_S0), .val (.int z14_S0), .val (.int vi16), .val (.int z18_S0), .val (.int vi20), .val (.int z22_S0), .val (.int vi24), .val (.int vi25), .val (.int z27_S0), .val (.int z30_S0), .val (.int vi32), .val (.int z34_S0), .val (.int vi36), .val (.int vi37), .unset, .unset, .unset, .unset, .unset, .unset, .unset, .unset, .unset, .unset, .unset, .unset, .unset, .unset, .unset, .unset, .unset, .unset, .unset, .unset, .unset] [(.int vi36)]))
                        exact J40 T35 _ X35 N35 e35 _ (by rw [if_neg hc244_38])
                    by_cases hc207_33 : z8_S0 = (0 : Int32)
                    · refine own_go (fun t_ k => XS.ifYes X31.here hx rfl (pc0 := 207) (pc' := 215) rfl (hb hby at_207) rfl ((if0 _ _).trans (teq hc207_33).1) (by decide) (by decide) k) ?_
                      show WP p e below _ (T31.setTop (mkF m 215 #[.val (.int p1), .val (.int p2), .val (.int p3), .val (.long q4), .second, .val (.long q5), .second, .val (.int z2_S0), .val (.int z5_S0), .val (.int z8_S0), .val (.int z11_S0), .val (.int z14_S0), .val (.int vi16), .val (.int z18_S0), .val (.int vi20), .val (.int z22_S0), .val (.int vi24), .val (.int vi25), .val (.int z27_S0), .val (.int z30_S0), .val (.int vi32), .unset, .unset, .unset, .unset, .unset, .unset, .unset, .unset, .unset, .unset, .unset, .unset, .unset, .unset, .unset, .unset, .unset, .unset, .unset, .unset, .unset, .unset, .unset, .unset] []))
                      refine own_go (fun t_ k => XS.iloadN X31.here hx rfl (hb hby at_215) rfl k) ?_
                      show WP p e below _ (T31.setTop (mkF m 216 #[.val (.int p1), .val (.int p2), .val (.int p3), .val (.long q4), .second, .val (.long q5), .second, .val (.int z2_S0), .val (.int z5_S0), .val (.int z8_S0), .val (.int z11_S0), .val (.int z14_S0), .val (.int vi16), .val (.int z18_S0), .val (.int vi20), .val (.int z22_S0), .val (.int vi24), .val (.int vi25), .val (.int z27_S0), .val (.int z30_S0), .val (.int vi32), .unset, .unset, .unset, .unset, .unset, .unset, .unset, .unset, .unset, .unset, .unset, .unset, .unset, .unset, .unset, .unset, .unset, .unset, .unset, .unset, .unset, .unset, .unset, .unset] [(.int p1)]))
                      refine own_go (fun t_ k => XS.bipush X31.here hx rfl (hb hby at_216) k) ?_
                      show WP p e below _ (T31.setTop (mkF m 218 #[.val (.int p1), .val (.int p2), .val (.int p3), .val (.long q4), .second, .val (.long q5), .second, .val (.int z2_S0), .val (.int z5_S0), .val (.int z8_S0), .val (.int z11_S0), .val (.int z14_S0), .val (.int vi16), .val (.int z18_S0), .val (.int vi20), .val (.int z22_S0), .val (.int vi24), .val (.int vi25), .val (.int z27_S0), .val (.int z30_S0), .val (.int vi32), .unset, .unset, .unset, .unset, .unset, .unset, .unset, .unset, .unset, .unset, .unset, .unset, .unset, .unset, .unset, .unset, .unset, .unset, .unset, .unset, .unset, .unset, .unset, .unset] [(.int (17 : Int32)), (.int p1)]))
                      refine own_go (fun t_ k => XS.iushr X31.here hx rfl (hb hby at_218) rfl k) ?_
                      show WP p e below _ (T31.setTop (mkF m 219 #[.val (.int p1), .val (.int p2), .val (.int p3), .val (.long q4), .second, .val (.long q5), .second, .val (.int z2_S0), .val (.int z5_S0), .val (.int z8_S0), .val (.int z11_S0), .val (.int z14_S0), .val (.int vi16), .val (.int z18_S0), .val (.int vi20), .val (.int z22_S0), .val (.int vi24), .val (.int vi25), .val (.int z27_S0), .val (.int z30_S0), .val (.int vi32), .unset, .unset, .unset, .unset, .unset, .unset, .unset, .unset, .unset, .unset, .unset, .unset, .unset, .unset, .unset, .unset, .unset, .unset, .unset, .unset, .unset, .unset, .unset, .unset] [(.int ((p1.toUInt32 >>> ((17 : Int32) &&& 31).toUInt32).toInt32))]))
                      refine own_go (fun t_ k => XS.iconst X31.here hx rfl (hb hby at_219) k) ?_
                      show WP p e below _ (T31.setTop (mkF m 220 #[.val (.int p1), .val (.int p2), .val (.int p3), .val (.long q4), .second, .val (.long q5), .second, .val (.int z2_S0), .val (.int z5_S0), .val (.int z8_S0), .val (.int z11_S0), .val (.int z14_S0), .val (.int vi16), .val (.int z18_S0), .val (.int vi20), .val (.int z22_S0), .val (.int vi24), .val (.int vi25), .val (.int z27_S0), .val (.int z30_S0), .val (.int vi32), .unset, .unset, .unset, .unset, .unset, .unset, .unset, .unset, .unset, .unset, .unset, .unset, .unset, .unset, .unset, .unset, .unset, .unset, .unset, .unset, .unset, .unset, .unset, .unset] [(.int (3 : Int32)), (.int ((p1.toUInt32 >>> ((17 : Int32) &&& 31).toUInt32).toInt32))]))
                      refine own_go (fun t_ k => XS.iand X31.here hx rfl (hb hby at_220) rfl k) ?_
                      show WP p e below _ (T31.setTop (mkF m 221 #[.val (.int p1), .val (.int p2), .val (.int p3), .val (.long q4), .second, .val (.long q5), .second, .val (.int z2_S0), .val (.int z5_S0), .val (.int z8_S0), .val (.int z11_S0), .val (.int z14_S0), .val (.int vi16), .val (.int z18_S0), .val (.int vi20), .val (.int z22_S0), .val (.int vi24), .val (.int vi25), .val (.int z27_S0), .val (.int z30_S0), .val (.int vi32), .unset, .unset, .unset, .unset, .unset, .unset, .unset, .unset, .unset, .unset, .unset, .unset, .unset, .unset, .unset, .unset, .unset, .unset, .unset, .unset, .unset, .unset, .unset, .unset] [(.int (((p1.toUInt32 >>> ((17 : Int32) &&& 31).toUInt32).toInt32) &&& (3 : Int32)))]))
                      refine own_go (fun t_ k => XS.iconst X31.here hx rfl (hb hby at_221) k) ?_
                      show WP p e below _ (T31.setTop (mkF m 222 #[.val (.int p1), .val (.int p2), .val (.int p3), .val (.long q4), .second, .val (.long q5), .second, .val (.int z2_S0), .val (.int z5_S0), .val (.int z8_S0), .val (.int z11_S0), .val (.int z14_S0), .val (.int vi16), .val (.int z18_S0), .val (.int vi20), .val (.int z22_S0), .val (.int vi24), .val (.int vi25), .val (.int z27_S0), .val (.int z30_S0), .val (.int vi32), .unset, .unset, .unset, .unset, .unset, .unset, .unset, .unset, .unset, .unset, .unset, .unset, .unset, .unset, .unset, .unset, .unset, .unset, .unset, .unset, .unset, .unset, .unset, .unset] [(.int (3 : Int32)), (.int (((p1.toUInt32 >>> ((17 : Int32) &&& 31).toUInt32).toInt32) &&& (3 : Int32)))]))
                      refine own_go (fun t_ k => iremM X31 hx rfl (hb hby at_222) rfl (by decide) k) ?_
                      show WP p e below _ (T31.setTop (mkF m 223 #[.val (.int p1), .val (.int p2), .val (.int p3), .val (.long q4), .second, .val (.long q5), .second, .val (.int z2_S0), .val (.int z5_S0), .val (.int z8_S0), .val (.int z11_S0), .val (.int z14_S0), .val (.int vi16), .val (.int z18_S0), .val (.int vi20), .val (.int z22_S0), .val (.int vi24), .val (.int vi25), .val (.int z27_S0), .val (.int z30_S0), .val (.int vi32), .unset, .unset, .unset, .unset, .unset, .unset, .unset, .unset, .unset, .unset, .unset, .unset, .unset, .unset, .unset, .unset, .unset, .unset, .unset, .unset, .unset, .unset, .unset, .unset] [(.int ((((p1.toUInt32 >>> ((17 : Int32) &&& 31).toUInt32).toInt32) &&& (3 : Int32)) % (3 : Int32)))]))
                      exact J35 T31 _ X31 N31 e31 _ (by rw [if_pos hc207_33])
                    · refine own_go (fun t_ k => XS.ifNo X31.here hx rfl (hb hby at_207) rfl ((if0 _ _).trans (feq hc207_33).1) k) ?_
                      show WP p e below _ (T31.setTop (mkF m 210 #[.val (.int p1), .val (.int p2), .val (.int p3), .val (.long q4), .second, .val (.long q5), .second, .val (.int z2_S0), .val (.int z5_S0), .val (.int z8_S0), .val (.int z11_S0), .val (.int z14_S0), .val (.int vi16), .val (.int z18_S0), .val (.int vi20), .val (.int z22_S0), .val (.int vi24), .val (.int vi25), .val (.int z27_S0), .val (.int z30_S0), .val (.int vi32), .unset, .unset, .unset, .unset, .unset, .unset, .unset, .unset, .unset, .unset, .unset, .unset, .unset, .unset, .unset, .unset, .unset, .unset, .unset, .unset, .unset, .unset, .unset, .unset] []))
                      refine own_go (fun t_ k => XS.iload X31.here hx rfl (hb hby at_210) rfl k) ?_
                      show WP p e below _ (T31.setTop (mkF m 212 #[.val (.int p1), .val (.int p2), .val (.int p3), .val (.long q4), .second, .val (.long q5), .second, .val (.int z2_S0), .val (.int z5_S0), .val (.int z8_S0), .val (.int z11_S0), .val (.int z14_S0), .val (.int vi16), .val (.int z18_S0), .val (.int vi20), .val (.int z22_S0), .val (.int vi24), .val (.int vi25), .val (.int z27_S0), .val (.int z30_S0), .val (.int vi32), .unset, .unset, .unset, .unset, .unset, .unset, .unset, .unset, .unset, .unset, .unset, .unset, .unset, .unset, .unset, .unset, .unset, .unset, .unset, .unset, .unset, .unset, .unset, .unset] [(.int vi32)]))
                      refine own_go (fun t_ k => XS.goto X31.here hx rfl (pc0 := 212) (pc' := 223) rfl (hb hby at_212) (by decide) (by decide) k) ?_
                      show WP p e below _ (T31.setTop (mkF m 223 #[.val (.int p1), .val (.int p2), .val (.int p3), .val (.long q4), .second, .val (.long q5), .second, .val (.int z2_S0), .val (.int z5_S0), .val (.int z8_S0), .val (.int z11_S0), .val (.int z14_S0), .val (.int vi16), .val (.int z18_S0), .val (.int vi20), .val (.int z22_S0), .val (.int vi24), .val (.int vi25), .val (.int z27_S0), .val (.int z30_S0), .val (.int vi32), .unset, .unset, .unset, .unset, .unset, .unset, .unset, .unset, .unset, .unset, .unset, .unset, .unset, .unset, .unset, .unset, .unset, .unset, .unset, .unset, .unset, .unset, .unset, .unset] [(.int vi32)]))
                      exact J35 T31 _ X31 N31 e31 _ (by rw [if_neg hc207_33])
                  by_cases hc177_29 : z5_S0 = (0 : Int32)
                  · refine own_go (fun t_ k => XS.ifYes X28.here hx rfl (pc0 := 177) (pc' := 185) rfl (hb hby at_177) rfl ((if0 _ _).trans (teq hc177_29).1) (by decide) (by decide) k) ?_
                    show WP p e below _ (T28.setTop (mkF m 185 #[.val (.int p1), .val (.int p2), .val (.int p3), .val (.long q4), .second, .val (.long q5), .second, .val (.int z2_S0), .val (.int z5_S0), .val (.int z8_S0), .val (.int z11_S0), .val (.int z14_S0), .val (.int vi16), .val (.int z18_S0), .val (.int vi20), .val (.int z22_S0), .val (.int vi24), .val (.int vi25), .val (.int z27_S0), .unset, .unset, .unset, .unset, .unset, .unset, .unset, .unset, .unset, .unset, .unset, .unset, .unset, .unset, .unset, .unset, .unset, .unset, .unset, .unset, .unset, .unset, .unset, .unset, .unset, .unset] []))
                    refine own_go (fun t_ k => XS.iloadN X28.here hx rfl (hb hby at_185) rfl k) ?_
                    show WP p e below _ (T28.setTop (mkF m 186 #[.val (.int p1), .val (.int p2), .val (.int p3), .val (.long q4), .second, .val (.long q5), .second, .val (.int z2_S0), .val (.int z5_S0), .val (.int z8_S0), .val (.int z11_S0), .val (.int z14_S0), .val (.int vi16), .val (.int z18_S0), .val (.int vi20), .val (.int z22_S0), .val (.int vi24), .val (.int vi25), .val (.int z27_S0), .unset, .unset, .unset, .unset, .unset, .unset, .unset, .unset, .unset, .unset, .unset, .unset, .unset, .unset, .unset, .unset, .unset, .unset, .unset, .unset, .unset, .unset, .unset, .unset, .unset, .unset] [(.int p2)]))
                    refine own_go (fun t_ k => XS.bipush X28.here hx rfl (hb hby at_186) k) ?_
                    show WP p e below _ (T28.setTop (mkF m 188 #[.val (.int p1), .val (.int p2), .val (.int p3), .val (.long q4), .second, .val (.long q5), .second, .val (.int z2_S0), .val (.int z5_S0), .val (.int z8_S0), .val (.int z11_S0), .val (.int z14_S0), .val (.int vi16), .val (.int z18_S0), .val (.int vi20), .val (.int z22_S0), .val (.int vi24), .val (.int vi25), .val (.int z27_S0), .unset, .unset, .unset, .unset, .unset, .unset, .unset, .unset, .unset, .unset, .unset, .unset, .unset, .unset, .unset, .unset, .unset, .unset, .unset, .unset, .unset, .unset, .unset, .unset, .unset, .unset] [(.int (24 : Int32)), (.int p2)]))
                    refine own_go (fun t_ k => XS.iushr X28.here hx rfl (hb hby at_188) rfl k) ?_
                    show WP p e below _ (T28.setTop (mkF m 189 #[.val (.int p1), .val (.int p2), .val (.int p3), .val (.long q4), .second, .val (.long q5), .second, .val (.int z2_S0), .val (.int z5_S0), .val (.int z8_S0), .val (.int z11_S0), .val (.int z14_S0), .val (.int vi16), .val (.int z18_S0), .val (.int vi20), .val (.int z22_S0), .val (.int vi24), .val (.int vi25), .val (.int z27_S0), .unset, .unset, .unset, .unset, .unset, .unset, .unset, .unset, .unset, .unset, .unset, .unset, .unset, .unset, .unset, .unset, .unset, .unset, .unset, .unset, .unset, .unset, .unset, .unset, .unset, .unset] [(.int ((p2.toUInt32 >>> ((24 : Int32) &&& 31).toUInt32).toInt32))]))
                    refine own_go (fun t_ k => XS.sipush X28.here hx rfl (hb hby at_189) k) ?_
                    show WP p e below _ (T28.setTop (mkF m 192 #[.val (.int p1), .val (.int p2), .val (.int p3), .val (.long q4), .second, .val (.long q5), .second, .val (.int z2_S0), .val (.int z5_S0), .val (.int z8_S0), .val (.int z11_S0), .val (.int z14_S0), .val (.int vi16), .val (.int z18_S0), .val (.int vi20), .val (.int z22_S0), .val (.int vi24), .val (.int vi25), .val (.int z27_S0), .unset, .unset, .unset, .unset, .unset, .unset, .unset, .unset, .unset, .unset, .unset, .unset, .unset, .unset, .unset, .unset, .unset, .unset, .unset, .unset, .unset, .unset, .unset, .unset, .unset, .unset] [(.int (255 : Int32)), (.int ((p2.toUInt32 >>> ((24 : Int32) &&& 31).toUInt32).toInt32))]))
                    refine own_go (fun t_ k => XS.iand X28.here hx rfl (hb hby at_192) rfl k) ?_
                    show WP p e below _ (T28.setTop (mkF m 193 #[.val (.int p1), .val (.int p2), .val (.int p3), .val (.long q4), .second, .val (.long q5), .second, .val (.int z2_S0), .val (.int z5_S0), .val (.int z8_S0), .val (.int z11_S0), .val (.int z14_S0), .val (.int vi16), .val (.int z18_S0), .val (.int vi20), .val (.int z22_S0), .val (.int vi24), .val (.int vi25), .val (.int z27_S0), .unset, .unset, .unset, .unset, .unset, .unset, .unset, .unset, .unset, .unset, .unset, .unset, .unset, .unset, .unset, .unset, .unset, .unset, .unset, .unset, .unset, .unset, .unset, .unset, .unset, .unset] [(.int (((p2.toUInt32 >>> ((24 : Int32) &&& 31).toUInt32).toInt32) &&& (255 : Int32)))]))
                    exact J31 T28 _ X28 N28 e28 _ (by rw [if_pos hc177_29])
                  · refine own_go (fun t_ k => XS.ifNo X28.here hx rfl (hb hby at_177) rfl ((if0 _ _).trans (feq hc177_29).1) k) ?_
                    show WP p e below _ (T28.setTop (mkF m 180 #[.val (.int p1), .val (.int p2), .val (.int p3), .val (.long q4), .second, .val (.long q5), .second, .val (.int z2_S0), .val (.int z5_S0), .val (.int z8_S0), .val (.int z11_S0), .val (.int z14_S0), .val (.int vi16), .val (.int z18_S0), .val (.int vi20), .val (.int z22_S0), .val (.int vi24), .val (.int vi25), .val (.int z27_S0), .unset, .unset, .unset, .unset, .unset, .unset, .unset, .unset, .unset, .unset, .unset, .unset, .unset, .unset, .unset, .unset, .unset, .unset, .unset, .unset, .unset, .unset, .unset, .unset, .unset, .unset] []))
                    refine own_go (fun t_ k => XS.iload X28.here hx rfl (hb hby at_180) rfl k) ?_
                    show WP p e below _ (T28.setTop (mkF m 182 #[.val (.int p1), .val (.int p2), .val (.int p3), .val (.long q4), .second, .val (.long q5), .second, .val (.int z2_S0), .val (.int z5_S0), .val (.int z8_S0), .val (.int z11_S0), .val (.int z14_S0), .val (.int vi16), .val (.int z18_S0), .val (.int vi20), .val (.int z22_S0), .val (.int vi24), .val (.int vi25), .val (.int z27_S0), .unset, .unset, .unset, .unset, .unset, .unset, .unset, .unset, .unset, .unset, .unset, .unset, .unset, .unset, .unset, .unset, .unset, .unset, .unset, .unset, .unset, .unset, .unset, .unset, .unset, .unset] [(.int vi25)]))
                    refine own_go (fun t_ k => XS.goto X28.here hx rfl (pc0 := 182) (pc' := 193) rfl (hb hby at_182) (by decide) (by decide) k) ?_
                    show WP p e below _ (T28.setTop (mkF m 193 #[.val (.int p1), .val (.int p2), .val (.int p3), .val (.long q4), .second, .val (.long q5), .second, .val (.int z2_S0), .val (.int z5_S0), .val (.int z8_S0), .val (.int z11_S0), .val (.int z14_S0), .val (.int vi16), .val (.int z18_S0), .val (.int vi20), .val (.int z22_S0), .val (.int vi24), .val (.int vi25), .val (.int z27_S0), .unset, .unset, .unset, .unset, .unset, .unset, .unset, .unset, .unset, .unset, .unset, .unset, .unset, .unset, .unset, .unset, .unset, .unset, .unset, .unset, .unset, .unset, .unset, .unset, .unset, .unset] [(.int vi25)]))
                    exact J31 T28 _ X28 N28 e28 _ (by rw [if_neg hc177_29])
                by_cases hc157_26 : z5_S0 = (0 : Int32)
                · refine own_go (fun t_ k => XS.ifYes X23.here hx rfl (pc0 := 157) (pc' := 165) rfl (hb hby at_157) rfl ((if0 _ _).trans (teq hc157_26).1) (by decide) (by decide) k) ?_
                  show WP p e below _ (T23.setTop (mkF m 165 #[.val (.int p1), .val (.int p2), .val (.int p3), .val (.long q4), .second, .val (.long q5), .second, .val (.int z2_S0), .val (.int z5_S0), .val (.int z8_S0), .val (.int z11_S0), .val (.int z14_S0), .val (.int vi16), .val (.int z18_S0), .val (.int vi20), .val (.int z22_S0), .val (.int vi24), .val (.int vi25), .unset, .unset, .unset, .unset, .unset, .unset, .unset, .unset, .unset, .unset, .unset, .unset, .unset, .unset, .unset, .unset, .unset, .unset, .unset, .unset, .unset, .unset, .unset, .unset, .unset, .unset, .unset] []))
                  refine own_go (fun t_ k => XS.iloadN X23.here hx rfl (hb hby at_165) rfl k) ?_
                  show WP p e below _ (T23.setTop (mkF m 166 #[.val (.int p1), .val (.int p2), .val (.int p3), .val (.long q4), .second, .val (.long q5), .second, .val (.int z2_S0), .val (.int z5_S0), .val (.int z8_S0), .val (.int z11_S0), .val (.int z14_S0), .val (.int vi16), .val (.int z18_S0), .val (.int vi20), .val (.int z22_S0), .val (.int vi24), .val (.int vi25), .unset, .unset, .unset, .unset, .unset, .unset, .unset, .unset, .unset, .unset, .unset, .unset, .unset, .unset, .unset, .unset, .unset, .unset, .unset, .unset, .unset, .unset, .unset, .unset, .unset, .unset, .unset] [(.int p2)]))
                  refine own_go (fun t_ k => XS.bipush X23.here hx rfl (hb hby at_166) k) ?_
                  show WP p e below _ (T23.setTop (mkF m 168 #[.val (.int p1), .val (.int p2), .val (.int p3), .val (.long q4), .second, .val (.long q5), .second, .val (.int z2_S0), .val (.int z5_S0), .val (.int z8_S0), .val (.int z11_S0), .val (.int z14_S0), .val (.int vi16), .val (.int z18_S0), .val (.int vi20), .val (.int z22_S0), .val (.int vi24), .val (.int vi25), .unset, .unset, .unset, .unset, .unset, .unset, .unset, .unset, .unset, .unset, .unset, .unset, .unset, .unset, .unset, .unset, .unset, .unset, .unset, .unset, .unset, .unset, .unset, .unset, .unset, .unset, .unset] [(.int (16 : Int32)), (.int p2)]))
                  refine own_go (fun t_ k => XS.iushr X23.here hx rfl (hb hby at_168) rfl k) ?_
                  show WP p e below _ (T23.setTop (mkF m 169 #[.val (.int p1), .val (.int p2), .val (.int p3), .val (.long q4), .second, .val (.long q5), .second, .val (.int z2_S0), .val (.int z5_S0), .val (.int z8_S0), .val (.int z11_S0), .val (.int z14_S0), .val (.int vi16), .val (.int z18_S0), .val (.int vi20), .val (.int z22_S0), .val (.int vi24), .val (.int vi25), .unset, .unset, .unset, .unset, .unset, .unset, .unset, .unset, .unset, .unset, .unset, .unset, .unset, .unset, .unset, .unset, .unset, .unset, .unset, .unset, .unset, .unset, .unset, .unset, .unset, .unset, .unset] [(.int ((p2.toUInt32 >>> ((16 : Int32) &&& 31).toUInt32).toInt32))]))
                  refine own_go (fun t_ k => XS.sipush X23.here hx rfl (hb hby at_169) k) ?_
                  show WP p e below _ (T23.setTop (mkF m 172 #[.val (.int p1), .val (.int p2), .val (.int p3), .val (.long q4), .second, .val (.long q5), .second, .val (.int z2_S0), .val (.int z5_S0), .val (.int z8_S0), .val (.int z11_S0), .val (.int z14_S0), .val (.int vi16), .val (.int z18_S0), .val (.int vi20), .val (.int z22_S0), .val (.int vi24), .val (.int vi25), .unset, .unset, .unset, .unset, .unset, .unset, .unset, .unset, .unset, .unset, .unset, .unset, .unset, .unset, .unset, .unset, .unset, .unset, .unset, .unset, .unset, .unset, .unset, .unset, .unset, .unset, .unset] [(.int (255 : Int32)), (.int ((p2.toUInt32 >>> ((16 : Int32) &&& 31).toUInt32).toInt32))]))
                  refine own_go (fun t_ k => XS.iand X23.here hx rfl (hb hby at_172) rfl k) ?_
                  show WP p e below _ (T23.setTop (mkF m 173 #[.val (.int p1), .val (.int p2), .val (.int p3), .val (.long q4), .second, .val (.long q5), .second, .val (.int z2_S0), .val (.int z5_S0), .val (.int z8_S0), .val (.int z11_S0), .val (.int z14_S0), .val (.int vi16), .val (.int z18_S0), .val (.int vi20), .val (.int z22_S0), .val (.int vi24), .val (.int vi25), .unset, .unset, .unset, .unset, .unset, .unset, .unset, .unset, .unset, .unset, .unset, .unset, .unset, .unset, .unset, .unset, .unset, .unset, .unset, .unset, .unset, .unset, .unset, .unset, .unset, .unset, .unset] [(.int (((p2.toUInt32 >>> ((16 : Int32) &&& 31).toUInt32).toInt32) &&& (255 : Int32)))]))
                  exact J28 T23 _ X23 N23 e23 _ (by rw [if_pos hc157_26])
                · refine own_go (fun t_ k => XS.ifNo X23.here hx rfl (hb hby at_157) rfl ((if0 _ _).trans (feq hc157_26).1) k) ?_
                  show WP p e below _ (T23.setTop (mkF m 160 #[.val (.int p1), .val (.int p2), .val (.int p3), .val (.long q4), .second, .val (.long q5), .second, .val (.int z2_S0), .val (.int z5_S0), .val (.int z8_S0), .val (.int z11_S0), .val (.int z14_S0), .val (.int vi16), .val (.int z18_S0), .val (.int vi20), .val (.int z22_S0), .val (.int vi24), .val (.int vi25), .unset, .unset, .unset, .unset, .unset, .unset, .unset, .unset, .unset, .unset, .unset, .unset, .unset, .unset, .unset, .unset, .unset, .unset, .unset, .unset, .unset, .unset, .unset, .unset, .unset, .unset, .unset] []))
                  refine own_go (fun t_ k => XS.iload X23.here hx rfl (hb hby at_160) rfl k) ?_
                  show WP p e below _ (T23.setTop (mkF m 162 #[.val (.int p1), .val (.int p2), .val (.int p3), .val (.long q4), .second, .val (.long q5), .second, .val (.int z2_S0), .val (.int z5_S0), .val (.int z8_S0), .val (.int z11_S0), .val (.int z14_S0), .val (.int vi16), .val (.int z18_S0), .val (.int vi20), .val (.int z22_S0), .val (.int vi24), .val (.int vi25), .unset, .unset, .unset, .unset, .unset, .unset, .unset, .unset, .unset, .unset, .unset, .unset, .unset, .unset, .unset, .unset, .unset, .unset, .unset, .unset, .unset, .unset, .unset, .unset, .unset, .unset, .unset] [(.int vi24)]))
                  refine own_go (fun t_ k => XS.goto X23.here hx rfl (pc0 := 162) (pc' := 173) rfl (hb hby at_162) (by decide) (by decide) k) ?_
                  show WP p e below _ (T23.setTop (mkF m 173 #[.val (.int p1), .val (.int p2), .val (.int p3), .val (.long q4), .second, .val (.long q5), .second, .val (.int z2_S0), .val (.int z5_S0), .val (.int z8_S0), .val (.int z11_S0), .val (.int z14_S0), .val (.int vi16), .val (.int z18_S0), .val (.int vi20), .val (.int z22_S0), .val (.int vi24), .val (.int vi25), .unset, .unset, .unset, .unset, .unset, .unset, .unset, .unset, .unset, .unset, .unset, .unset, .unset, .unset, .unset, .unset, .unset, .unset, .unset, .unset, .unset, .unset, .unset, .unset, .unset, .unset, .unset] [(.int vi24)]))
                  exact J28 T23 _ X23 N23 e23 _ (by rw [if_neg hc157_26])
              by_cases hc120_21 : z5_S0 = (0 : Int32)
              · refine own_go (fun t_ k => XS.ifYes X19.here hx rfl (pc0 := 120) (pc' := 128) rfl (hb hby at_120) rfl ((if0 _ _).trans (teq hc120_21).1) (by decide) (by decide) k) ?_
                show WP p e below _ (T19.setTop (mkF m 128 #[.val (.int p1), .val (.int p2), .val (.int p3), .val (.long q4), .second, .val (.long q5), .second, .val (.int z2_S0), .val (.int z5_S0), .val (.int z8_S0), .val (.int z11_S0), .val (.int z14_S0), .val (.int vi16), .val (.int z18_S0), .val (.int vi20), .unset, .unset, .unset, .unset, .unset, .unset, .unset, .unset, .unset, .unset, .unset, .unset, .unset, .unset, .unset, .unset, .unset, .unset, .unset, .unset, .unset, .unset, .unset, .unset, .unset, .unset, .unset, .unset, .unset, .unset] []))
                refine own_go (fun t_ k => XS.iloadN X19.here hx rfl (hb hby at_128) rfl k) ?_
                show WP p e below _ (T19.setTop (mkF m 129 #[.val (.int p1), .val (.int p2), .val (.int p3), .val (.long q4), .second, .val (.long q5), .second, .val (.int z2_S0), .val (.int z5_S0), .val (.int z8_S0), .val (.int z11_S0), .val (.int z14_S0), .val (.int vi16), .val (.int z18_S0), .val (.int vi20), .unset, .unset, .unset, .unset, .unset, .unset, .unset, .unset, .unset, .unset, .unset, .unset, .unset, .unset, .unset, .unset, .unset, .unset, .unset, .unset, .unset, .unset, .unset, .unset, .unset, .unset, .unset, .unset, .unset, .unset] [(.int p1)]))
                refine own_go (fun t_ k => XS.bipush X19.here hx rfl (hb hby at_129) k) ?_
                show WP p e below _ (T19.setTop (mkF m 131 #[.val (.int p1), .val (.int p2), .val (.int p3), .val (.long q4), .second, .val (.long q5), .second, .val (.int z2_S0), .val (.int z5_S0), .val (.int z8_S0), .val (.int z11_S0), .val (.int z14_S0), .val (.int vi16), .val (.int z18_S0), .val (.int vi20), .unset, .unset, .unset, .unset, .unset, .unset, .unset, .unset, .unset, .unset, .unset, .unset, .unset, .unset, .unset, .unset, .unset, .unset, .unset, .unset, .unset, .unset, .unset, .unset, .unset, .unset, .unset, .unset, .unset, .unset] [(.int (13 : Int32)), (.int p1)]))
                refine own_go (fun t_ k => XS.iushr X19.here hx rfl (hb hby at_131) rfl k) ?_
                show WP p e below _ (T19.setTop (mkF m 132 #[.val (.int p1), .val (.int p2), .val (.int p3), .val (.long q4), .second, .val (.long q5), .second, .val (.int z2_S0), .val (.int z5_S0), .val (.int z8_S0), .val (.int z11_S0), .val (.int z14_S0), .val (.int vi16), .val (.int z18_S0), .val (.int vi20), .unset, .unset, .unset, .unset, .unset, .unset, .unset, .unset, .unset, .unset, .unset, .unset, .unset, .unset, .unset, .unset, .unset, .unset, .unset, .unset, .unset, .unset, .unset, .unset, .unset, .unset, .unset, .unset, .unset, .unset] [(.int ((p1.toUInt32 >>> ((13 : Int32) &&& 31).toUInt32).toInt32))]))
                refine own_go (fun t_ k => XS.iconst X19.here hx rfl (hb hby at_132) k) ?_
                show WP p e below _ (T19.setTop (mkF m 133 #[.val (.int p1), .val (.int p2), .val (.int p3), .val (.long q4), .second, .val (.long q5), .second, .val (.int z2_S0), .val (.int z5_S0), .val (.int z8_S0), .val (.int z11_S0), .val (.int z14_S0), .val (.int vi16), .val (.int z18_S0), .val (.int vi20), .unset, .unset, .unset, .unset, .unset, .unset, .unset, .unset, .unset, .unset, .unset, .unset, .unset, .unset, .unset, .unset, .unset, .unset, .unset, .unset, .unset, .unset, .unset, .unset, .unset, .unset, .unset, .unset, .unset, .unset] [(.int (3 : Int32)), (.int ((p1.toUInt32 >>> ((13 : Int32) &&& 31).toUInt32).toInt32))]))
                refine own_go (fun t_ k => XS.iand X19.here hx rfl (hb hby at_133) rfl k) ?_
                show WP p e below _ (T19.setTop (mkF m 134 #[.val (.int p1), .val (.int p2), .val (.int p3), .val (.long q4), .second, .val (.long q5), .second, .val (.int z2_S0), .val (.int z5_S0), .val (.int z8_S0), .val (.int z11_S0), .val (.int z14_S0), .val (.int vi16), .val (.int z18_S0), .val (.int vi20), .unset, .unset, .unset, .unset, .unset, .unset, .unset, .unset, .unset, .unset, .unset, .unset, .unset, .unset, .unset, .unset, .unset, .unset, .unset, .unset, .unset, .unset, .unset, .unset, .unset, .unset, .unset, .unset, .unset, .unset] [(.int (((p1.toUInt32 >>> ((13 : Int32) &&& 31).toUInt32).toInt32) &&& (3 : Int32)))]))
                refine own_go (fun t_ k => XS.iconst X19.here hx rfl (hb hby at_134) k) ?_
                show WP p e below _ (T19.setTop (mkF m 135 #[.val (.int p1), .val (.int p2), .val (.int p3), .val (.long q4), .second, .val (.long q5), .second, .val (.int z2_S0), .val (.int z5_S0), .val (.int z8_S0), .val (.int z11_S0), .val (.int z14_S0), .val (.int vi16), .val (.int z18_S0), .val (.int vi20), .unset, .unset, .unset, .unset, .unset, .unset, .unset, .unset, .unset, .unset, .unset, .unset, .unset, .unset, .unset, .unset, .unset, .unset, .unset, .unset, .unset, .unset, .unset, .unset, .unset, .unset, .unset, .unset, .unset, .unset] [(.int (3 : Int32)), (.int (((p1.toUInt32 >>> ((13 : Int32) &&& 31).toUInt32).toInt32) &&& (3 : Int32)))]))
                refine own_go (fun t_ k => iremM X19 hx rfl (hb hby at_135) rfl (by decide) k) ?_
                show WP p e below _ (T19.setTop (mkF m 136 #[.val (.int p1), .val (.int p2), .val (.int p3), .val (.long q4), .second, .val (.long q5), .second, .val (.int z2_S0), .val (.int z5_S0), .val (.int z8_S0), .val (.int z11_S0), .val (.int z14_S0), .val (.int vi16), .val (.int z18_S0), .val (.int vi20), .unset, .unset, .unset, .unset, .unset, .unset, .unset, .unset, .unset, .unset, .unset, .unset, .unset, .unset, .unset, .unset, .unset, .unset, .unset, .unset, .unset, .unset, .unset, .unset, .unset, .unset, .unset, .unset, .unset, .unset] [(.int ((((p1.toUInt32 >>> ((13 : Int32) &&& 31).toUInt32).toInt32) &&& (3 : Int32)) % (3 : Int32)))]))
                exact J23 T19 _ X19 N19 e19 _ (by rw [if_pos hc120_21])
              · refine own_go (fun t_ k => XS.ifNo X19.here hx rfl (hb hby at_120) rfl ((if0 _ _).trans (feq hc120_21).1) k) ?_
                show WP p e below _ (T19.setTop (mkF m 123 #[.val (.int p1), .val (.int p2), .val (.int p3), .val (.long q4), .second, .val (.long q5), .second, .val (.int z2_S0), .val (.int z5_S0), .val (.int z8_S0), .val (.int z11_S0), .val (.int z14_S0), .val (.int vi16), .val (.int z18_S0), .val (.int vi20), .unset, .unset, .unset, .unset, .unset, .unset, .unset, .unset, .unset, .unset, .unset, .unset, .unset, .unset, .unset, .unset, .unset, .unset, .unset, .unset, .unset, .unset, .unset, .unset, .unset, .unset, .unset, .unset, .unset, .unset] []))
                refine own_go (fun t_ k => XS.iload X19.here hx rfl (hb hby at_123) rfl k) ?_
                show WP p e below _ (T19.setTop (mkF m 125 #[.val (.int p1), .val (.int p2), .val (.int p3), .val (.long q4), .second, .val (.long q5), .second, .val (.int z2_S0), .val (.int z5_S0), .val (.int z8_S0), .val (.int z11_S0), .val (.int z14_S0), .val (.int vi16), .val (.int z18_S0), .val (.int vi20), .unset, .unset, .unset, .unset, .unset, .unset, .unset, .unset, .unset, .unset, .unset, .unset, .unset, .unset, .unset, .unset, .unset, .unset, .unset, .unset, .unset, .unset, .unset, .unset, .unset, .unset, .unset, .unset, .unset, .unset] [(.int vi20)]))
                refine own_go (fun t_ k => XS.goto X19.here hx rfl (pc0 := 125) (pc' := 136) rfl (hb hby at_125) (by decide) (by decide) k) ?_
                show WP p e below _ (T19.setTop (mkF m 136 #[.val (.int p1), .val (.int p2), .val (.int p3), .val (.long q4), .second, .val (.long q5), .second, .val (.int z2_S0), .val (.int z5_S0), .val (.int z8_S0), .val (.int z11_S0), .val (.int z14_S0), .val (.int vi16), .val (.int z18_S0), .val (.int vi20), .unset, .unset, .unset, .unset, .unset, .unset, .unset, .unset, .unset, .unset, .unset, .unset, .unset, .unset, .unset, .unset, .unset, .unset, .unset, .unset, .unset, .unset, .unset, .unset, .unset, .unset, .unset, .unset, .unset, .unset] [(.int vi20)]))
                exact J23 T19 _ X19 N19 e19 _ (by rw [if_neg hc120_21])
            by_cases hc90_17 : z2_S0 = (0 : Int32)
            · refine own_go (fun t_ k => XS.ifYes X15.here hx rfl (pc0 := 90) (pc' := 98) rfl (hb hby at_90) rfl ((if0 _ _).trans (teq hc90_17).1) (by decide) (by decide) k) ?_
              show WP p e below _ (T15.setTop (mkF m 98 #[.val (.int p1), .val (.int p2), .val (.int p3), .val (.long q4), .second, .val (.long q5), .second, .val (.int z2_S0), .val (.int z5_S0), .val (.int z8_S0), .val (.int z11_S0), .val (.int z14_S0), .val (.int vi16), .unset, .unset, .unset, .unset, .unset, .unset, .unset, .unset, .unset, .unset, .unset, .unset, .unset, .unset, .unset, .unset, .unset, .unset, .unset, .unset, .unset, .unset, .unset, .unset, .unset, .unset, .unset, .unset, .unset, .unset, .unset, .unset] []))
              refine own_go (fun t_ k => XS.iloadN X15.here hx rfl (hb hby at_98) rfl k) ?_
              show WP p e below _ (T15.setTop (mkF m 99 #[.val (.int p1), .val (.int p2), .val (.int p3), .val (.long q4), .second, .val (.long q5), .second, .val (.int z2_S0), .val (.int z5_S0), .val (.int z8_S0), .val (.int z11_S0), .val (.int z14_S0), .val (.int vi16), .unset, .unset, .unset, .unset, .unset, .unset, .unset, .unset, .unset, .unset, .unset, .unset, .unset, .unset, .unset, .unset, .unset, .unset, .unset, .unset, .unset, .unset, .unset, .unset, .unset, .unset, .unset, .unset, .unset, .unset, .unset, .unset] [(.int p1)]))
              refine own_go (fun t_ k => XS.iconst X15.here hx rfl (hb hby at_99) k) ?_
              show WP p e below _ (T15.setTop (mkF m 100 #[.val (.int p1), .val (.int p2), .val (.int p3), .val (.long q4), .second, .val (.long q5), .second, .val (.int z2_S0), .val (.int z5_S0), .val (.int z8_S0), .val (.int z11_S0), .val (.int z14_S0), .val (.int vi16), .unset, .unset, .unset, .unset, .unset, .unset, .unset, .unset, .unset, .unset, .unset, .unset, .unset, .unset, .unset, .unset, .unset, .unset, .unset, .unset, .unset, .unset, .unset, .unset, .unset, .unset, .unset, .unset, .unset, .unset, .unset, .unset] [(.int (3 : Int32)), (.int p1)]))
              refine own_go (fun t_ k => XS.iushr X15.here hx rfl (hb hby at_100) rfl k) ?_
              show WP p e below _ (T15.setTop (mkF m 101 #[.val (.int p1), .val (.int p2), .val (.int p3), .val (.long q4), .second, .val (.long q5), .second, .val (.int z2_S0), .val (.int z5_S0), .val (.int z8_S0), .val (.int z11_S0), .val (.int z14_S0), .val (.int vi16), .unset, .unset, .unset, .unset, .unset, .unset, .unset, .unset, .unset, .unset, .unset, .unset, .unset, .unset, .unset, .unset, .unset, .unset, .unset, .unset, .unset, .unset, .unset, .unset, .unset, .unset, .unset, .unset, .unset, .unset, .unset, .unset] [(.int ((p1.toUInt32 >>> ((3 : Int32) &&& 31).toUInt32).toInt32))]))
              refine own_go (fun t_ k => XS.bipush X15.here hx rfl (hb hby at_101) k) ?_
              show WP p e below _ (T15.setTop (mkF m 103 #[.val (.int p1), .val (.int p2), .val (.int p3), .val (.long q4), .second, .val (.long q5), .second, .val (.int z2_S0), .val (.int z5_S0), .val (.int z8_S0), .val (.int z11_S0), .val (.int z14_S0), .val (.int vi16), .unset, .unset, .unset, .unset, .unset, .unset, .unset, .unset, .unset, .unset, .unset, .unset, .unset, .unset, .unset, .unset, .unset, .unset, .unset, .unset, .unset, .unset, .unset, .unset, .unset, .unset, .unset, .unset, .unset, .unset, .unset, .unset] [(.int (7 : Int32)), (.int ((p1.toUInt32 >>> ((3 : Int32) &&& 31).toUInt32).toInt32))]))
              refine own_go (fun t_ k => XS.iand X15.here hx rfl (hb hby at_103) rfl k) ?_
              show WP p e below _ (T15.setTop (mkF m 104 #[.val (.int p1), .val (.int p2), .val (.int p3), .val (.long q4), .second, .val (.long q5), .second, .val (.int z2_S0), .val (.int z5_S0), .val (.int z8_S0), .val (.int z11_S0), .val (.int z14_S0), .val (.int vi16), .unset, .unset, .unset, .unset, .unset, .unset, .unset, .unset, .unset, .unset, .unset, .unset, .unset, .unset, .unset, .unset, .unset, .unset, .unset, .unset, .unset, .unset, .unset, .unset, .unset, .unset, .unset, .unset, .unset, .unset, .unset, .unset] [(.int (((p1.toUInt32 >>> ((3 : Int32) &&& 31).toUInt32).toInt32) &&& (7 : Int32)))]))
              refine own_go (fun t_ k => XS.iconst X15.here hx rfl (hb hby at_104) k) ?_
              show WP p e below _ (T15.setTop (mkF m 105 #[.val (.int p1), .val (.int p2), .val (.int p3), .val (.long q4), .second, .val (.long q5), .second, .val (.int z2_S0), .val (.int z5_S0), .val (.int z8_S0), .val (.int z11_S0), .val (.int z14_S0), .val (.int vi16), .unset, .unset, .unset, .unset, .unset, .unset, .unset, .unset, .unset, .unset, .unset, .unset, .unset, .unset, .unset, .unset, .unset, .unset, .unset, .unset, .unset, .unset, .unset, .unset, .unset, .unset, .unset, .unset, .unset, .unset, .unset, .unset] [(.int (5 : Int32)), (.int (((p1.toUInt32 >>> ((3 : Int32) &&& 31).toUInt32).toInt32) &&& (7 : Int32)))]))
              refine own_go (fun t_ k => iremM X15 hx rfl (hb hby at_105) rfl (by decide) k) ?_
              show WP p e below _ (T15.setTop (mkF m 106 #[.val (.int p1), .val (.int p2), .val (.int p3), .val (.long q4), .second, .val (.long q5), .second, .val (.int z2_S0), .val (.int z5_S0), .val (.int z8_S0), .val (.int z11_S0), .val (.int z14_S0), .val (.int vi16), .unset, .unset, .unset, .unset, .unset, .unset, .unset, .unset, .unset, .unset, .unset, .unset, .unset, .unset, .unset, .unset, .unset, .unset, .unset, .unset, .unset, .unset, .unset, .unset, .unset, .unset, .unset, .unset, .unset, .unset, .unset, .unset] [(.int ((((p1.toUInt32 >>> ((3 : Int32) &&& 31).toUInt32).toInt32) &&& (7 : Int32)) % (5 : Int32)))]))
              exact J19 T15 _ X15 N15 e15 _ (by rw [if_pos hc90_17])
            · refine own_go (fun t_ k => XS.ifNo X15.here hx rfl (hb hby at_90) rfl ((if0 _ _).trans (feq hc90_17).1) k) ?_
              show WP p e below _ (T15.setTop (mkF m 93 #[.val (.int p1), .val (.int p2), .val (.int p3), .val (.long q4), .second, .val (.long q5), .second, .val (.int z2_S0), .val (.int z5_S0), .val (.int z8_S0), .val (.int z11_S0), .val (.int z14_S0), .val (.int vi16), .unset, .unset, .unset, .unset, .unset, .unset, .unset, .unset, .unset, .unset, .unset, .unset, .unset, .unset, .unset, .unset, .unset, .unset, .unset, .unset, .unset, .unset, .unset, .unset, .unset, .unset, .unset, .unset, .unset, .unset, .unset, .unset] []))
              refine own_go (fun t_ k => XS.iload X15.here hx rfl (hb hby at_93) rfl k) ?_
              show WP p e below _ (T15.setTop (mkF m 95 #[.val (.int p1), .val (.int p2), .val (.int p3), .val (.long q4), .second, .val (.long q5), .second, .val (.int z2_S0), .val (.int z5_S0), .val (.int z8_S0), .val (.int z11_S0), .val (.int z14_S0), .val (.int vi16), .unset, .unset, .unset, .unset, .unset, .unset, .unset, .unset, .unset, .unset, .unset, .unset, .unset, .unset, .unset, .unset, .unset, .unset, .unset, .unset, .unset, .unset, .unset, .unset, .unset, .unset, .unset, .unset, .unset, .unset, .unset, .unset] [(.int vi16)]))
              refine own_go (fun t_ k => XS.goto X15.here hx rfl (pc0 := 95) (pc' := 106) rfl (hb hby at_95) (by decide) (by decide) k) ?_
              show WP p e below _ (T15.setTop (mkF m 106 #[.val (.int p1), .val (.int p2), .val (.int p3), .val (.long q4), .second, .val (.long q5), .second, .val (.int z2_S0), .val (.int z5_S0), .val (.int z8_S0), .val (.int z11_S0), .val (.int z14_S0), .val (.int vi16), .unset, .unset, .unset, .unset, .unset, .unset, .unset, .unset, .unset, .unset, .unset, .unset, .unset, .unset, .unset, .unset, .unset, .unset, .unset, .unset, .unset, .unset, .unset, .unset, .unset, .unset, .unset, .unset, .unset, .unset, .unset, .unset] [(.int vi16)]))
              exact J19 T15 _ X15 N15 e15 _ (by rw [if_neg hc90_17])
          by_cases hc70_13 : (((p1.toUInt32 >>> ((10 : Int32) &&& 31).toUInt32).toInt32) &&& (1 : Int32)) = (0 : Int32)
          · refine own_go (fun t_ k => XS.ifYes X12.here hx rfl (pc0 := 70) (pc' := 77) rfl (hb hby at_70) rfl ((if0 _ _).trans (teq hc70_13).1) (by decide) (by decide) k) ?_
            show WP p e below _ (T12.setTop (mkF m 77 #[.val (.int p1), .val (.int p2), .val (.int p3), .val (.long q4), .second, .val (.long q5), .second, .val (.int z2_S0), .val (.int z5_S0), .val (.int z8_S0), .val (.int z11_S0), .unset, .unset, .unset, .unset, .unset, .unset, .unset, .unset, .unset, .unset, .unset, .unset, .unset, .unset, .unset, .unset, .unset, .unset, .unset, .unset, .unset, .unset, .unset, .unset, .unset, .unset, .unset, .unset, .unset, .unset, .unset, .unset, .unset, .unset] []))
            refine own_go (fun t_ k => XS.iconst X12.here hx rfl (hb hby at_77) k) ?_
            show WP p e below _ (T12.setTop (mkF m 78 #[.val (.int p1), .val (.int p2), .val (.int p3), .val (.long q4), .second, .val (.long q5), .second, .val (.int z2_S0), .val (.int z5_S0), .val (.int z8_S0), .val (.int z11_S0), .unset, .unset, .unset, .unset, .unset, .unset, .unset, .unset, .unset, .unset, .unset, .unset, .unset, .unset, .unset, .unset, .unset, .unset, .unset, .unset, .unset, .unset, .unset, .unset, .unset, .unset, .unset, .unset, .unset, .unset, .unset, .unset, .unset, .unset] [(.int (0 : Int32))]))
            exact J15 T12 _ X12 N12 e12 _ (by rw [if_pos hc70_13])
          · refine own_go (fun t_ k => XS.ifNo X12.here hx rfl (hb hby at_70) rfl ((if0 _ _).trans (feq hc70_13).1) k) ?_
            show WP p e below _ (T12.setTop (mkF m 73 #[.val (.int p1), .val (.int p2), .val (.int p3), .val (.long q4), .second, .val (.long q5), .second, .val (.int z2_S0), .val (.int z5_S0), .val (.int z8_S0), .val (.int z11_S0), .unset, .unset, .unset, .unset, .unset, .unset, .unset, .unset, .unset, .unset, .unset, .unset, .unset, .unset, .unset, .unset, .unset, .unset, .unset, .unset, .unset, .unset, .unset, .unset, .unset, .unset, .unset, .unset, .unset, .unset, .unset, .unset, .unset, .unset] []))
            refine own_go (fun t_ k => XS.iconst X12.here hx rfl (hb hby at_73) k) ?_
            show WP p e below _ (T12.setTop (mkF m 74 #[.val (.int p1), .val (.int p2), .val (.int p3), .val (.long q4), .second, .val (.long q5), .second, .val (.int z2_S0), .val (.int z5_S0), .val (.int z8_S0), .val (.int z11_S0), .unset, .unset, .unset, .unset, .unset, .unset, .unset, .unset, .unset, .unset, .unset, .unset, .unset, .unset, .unset, .unset, .unset, .unset, .unset, .unset, .unset, .unset, .unset, .unset, .unset, .unset, .unset, .unset, .unset, .unset, .unset, .unset, .unset, .unset] [(.int (1 : Int32))]))
            refine own_go (fun t_ k => XS.goto X12.here hx rfl (pc0 := 74) (pc' := 78) rfl (hb hby at_74) (by decide) (by decide) k) ?_
            show WP p e below _ (T12.setTop (mkF m 78 #[.val (.int p1), .val (.int p2), .val (.int p3), .val (.long q4), .second, .val (.long q5), .second, .val (.int z2_S0), .val (.int z5_S0), .val (.int z8_S0), .val (.int z11_S0), .unset, .unset, .unset, .unset, .unset, .unset, .unset, .unset, .unset, .unset, .unset, .unset, .unset, .unset, .unset, .unset, .unset, .unset, .unset, .unset, .unset, .unset, .unset, .unset, .unset, .unset, .unset, .unset, .unset, .unset, .unset, .unset, .unset, .unset] [(.int (1 : Int32))]))
            exact J15 T12 _ X12 N12 e12 _ (by rw [if_neg hc70_13])
        by_cases hc54_10 : (((p1.toUInt32 >>> ((9 : Int32) &&& 31).toUInt32).toInt32) &&& (1 : Int32)) = (0 : Int32)
        · refine own_go (fun t_ k => XS.ifYes X9.here hx rfl (pc0 := 54) (pc' := 61) rfl (hb hby at_54) rfl ((if0 _ _).trans (teq hc54_10).1) (by decide) (by decide) k) ?_
          show WP p e below _ (T9.setTop (mkF m 61 #[.val (.int p1), .val (.int p2), .val (.int p3), .val (.long q4), .second, .val (.long q5), .second, .val (.int z2_S0), .val (.int z5_S0), .val (.int z8_S0), .unset, .unset, .unset, .unset, .unset, .unset, .unset, .unset, .unset, .unset, .unset, .unset, .unset, .unset, .unset, .unset, .unset, .unset, .unset, .unset, .unset, .unset, .unset, .unset, .unset, .unset, .unset, .unset, .unset, .unset, .unset, .unset, .unset, .unset, .unset] []))
          refine own_go (fun t_ k => XS.iconst X9.here hx rfl (hb hby at_61) k) ?_
          show WP p e below _ (T9.setTop (mkF m 62 #[.val (.int p1), .val (.int p2), .val (.int p3), .val (.long q4), .second, .val (.long q5), .second, .val (.int z2_S0), .val (.int z5_S0), .val (.int z8_S0), .unset, .unset, .unset, .unset, .unset, .unset, .unset, .unset, .unset, .unset, .unset, .unset, .unset, .unset, .unset, .unset, .unset, .unset, .unset, .unset, .unset, .unset, .unset, .unset, .unset, .unset, .unset, .unset, .unset, .unset, .unset, .unset, .unset, .unset, .unset] [(.int (0 : Int32))]))
          exact J12 T9 _ X9 N9 e9 _ (by rw [if_pos hc54_10])
        · refine own_go (fun t_ k => XS.ifNo X9.here hx rfl (hb hby at_54) rfl ((if0 _ _).trans (feq hc54_10).1) k) ?_
          show WP p e below _ (T9.setTop (mkF m 57 #[.val (.int p1), .val (.int p2), .val (.int p3), .val (.long q4), .second, .val (.long q5), .second, .val (.int z2_S0), .val (.int z5_S0), .val (.int z8_S0), .unset, .unset, .unset, .unset, .unset, .unset, .unset, .unset, .unset, .unset, .unset, .unset, .unset, .unset, .unset, .unset, .unset, .unset, .unset, .unset, .unset, .unset, .unset, .unset, .unset, .unset, .unset, .unset, .unset, .unset, .unset, .unset, .unset, .unset, .unset] []))
          refine own_go (fun t_ k => XS.iconst X9.here hx rfl (hb hby at_57) k) ?_
          show WP p e below _ (T9.setTop (mkF m 58 #[.val (.int p1), .val (.int p2), .val (.int p3), .val (.long q4), .second, .val (.long q5), .second, .val (.int z2_S0), .val (.int z5_S0), .val (.int z8_S0), .unset, .unset, .unset, .unset, .unset, .unset, .unset, .unset, .unset, .unset, .unset, .unset, .unset, .unset, .unset, .unset, .unset, .unset, .unset, .unset, .unset, .unset, .unset, .unset, .unset, .unset, .unset, .unset, .unset, .unset, .unset, .unset, .unset, .unset, .unset] [(.int (1 : Int32))]))
          refine own_go (fun t_ k => XS.goto X9.here hx rfl (pc0 := 58) (pc' := 62) rfl (hb hby at_58) (by decide) (by decide) k) ?_
          show WP p e below _ (T9.setTop (mkF m 62 #[.val (.int p1), .val (.int p2), .val (.int p3), .val (.long q4), .second, .val (.long q5), .second, .val (.int z2_S0), .val (.int z5_S0), .val (.int z8_S0), .unset, .unset, .unset, .unset, .unset, .unset, .unset, .unset, .unset, .unset, .unset, .unset, .unset, .unset, .unset, .unset, .unset, .unset, .unset, .unset, .unset, .unset, .unset, .unset, .unset, .unset, .unset, .unset, .unset, .unset, .unset, .unset, .unset, .unset, .unset] [(.int (1 : Int32))]))
          exact J12 T9 _ X9 N9 e9 _ (by rw [if_neg hc54_10])
      by_cases hc38_7 : (((p1.toUInt32 >>> ((8 : Int32) &&& 31).toUInt32).toInt32) &&& (1 : Int32)) = (0 : Int32)
      · refine own_go (fun t_ k => XS.ifYes X6.here hx rfl (pc0 := 38) (pc' := 45) rfl (hb hby at_38) rfl ((if0 _ _).trans (teq hc38_7).1) (by decide) (by decide) k) ?_
        show WP p e below _ (T6.setTop (mkF m 45 #[.val (.int p1), .val (.int p2), .val (.int p3), .val (.long q4), .second, .val (.long q5), .second, .val (.int z2_S0), .val (.int z5_S0), .unset, .unset, .unset, .unset, .unset, .unset, .unset, .unset, .unset, .unset, .unset, .unset, .unset, .unset, .unset, .unset, .unset, .unset, .unset, .unset, .unset, .unset, .unset, .unset, .unset, .unset, .unset, .unset, .unset, .unset, .unset, .unset, .unset, .unset, .unset, .unset] []))
        refine own_go (fun t_ k => XS.iconst X6.here hx rfl (hb hby at_45) k) ?_
        show WP p e below _ (T6.setTop (mkF m 46 #[.val (.int p1), .val (.int p2), .val (.int p3), .val (.long q4), .second, .val (.long q5), .second, .val (.int z2_S0), .val (.int z5_S0), .unset, .unset, .unset, .unset, .unset, .unset, .unset, .unset, .unset, .unset, .unset, .unset, .unset, .unset, .unset, .unset, .unset, .unset, .unset, .unset, .unset, .unset, .unset, .unset, .unset, .unset, .unset, .unset, .unset, .unset, .unset, .unset, .unset, .unset, .unset, .unset] [(.int (0 : Int32))]))
        exact J9 T6 _ X6 N6 e6 _ (by rw [if_pos hc38_7])
      · refine own_go (fun t_ k => XS.ifNo X6.here hx rfl (hb hby at_38) rfl ((if0 _ _).trans (feq hc38_7).1) k) ?_
        show WP p e below _ (T6.setTop (mkF m 41 #[.val (.int p1), .val (.int p2), .val (.int p3), .val (.long q4), .second, .val (.long q5), .second, .val (.int z2_S0), .val (.int z5_S0), .unset, .unset, .unset, .unset, .unset, .unset, .unset, .unset, .unset, .unset, .unset, .unset, .unset, .unset, .unset, .unset, .unset, .unset, .unset, .unset, .unset, .unset, .unset, .unset, .unset, .unset, .unset, .unset, .unset, .unset, .unset, .unset, .unset, .unset, .unset, .unset] []))
        refine own_go (fun t_ k => XS.iconst X6.here hx rfl (hb hby at_41) k) ?_
        show WP p e below _ (T6.setTop (mkF m 42 #[.val (.int p1), .val (.int p2), .val (.int p3), .val (.long q4), .second, .val (.long q5), .second, .val (.int z2_S0), .val (.int z5_S0), .unset, .unset, .unset, .unset, .unset, .unset, .unset, .unset, .unset, .unset, .unset, .unset, .unset, .unset, .unset, .unset, .unset, .unset, .unset, .unset, .unset, .unset, .unset, .unset, .unset, .unset, .unset, .unset, .unset, .unset, .unset, .unset, .unset, .unset, .unset, .unset] [(.int (1 : Int32))]))
        refine own_go (fun t_ k => XS.goto X6.here hx rfl (pc0 := 42) (pc' := 46) rfl (hb hby at_42) (by decide) (by decide) k) ?_
        show WP p e below _ (T6.setTop (mkF m 46 #[.val (.int p1), .val (.int p2), .val (.int p3), .val (.long q4), .second, .val (.long q5), .second, .val (.int z2_S0), .val (.int z5_S0), .unset, .unset, .unset, .unset, .unset, .unset, .unset, .unset, .unset, .unset, .unset, .unset, .unset, .unset, .unset, .unset, .unset, .unset, .unset, .unset, .unset, .unset, .unset, .unset, .unset, .unset, .unset, .unset, .unset, .unset, .unset, .unset, .unset, .unset, .unset, .unset] [(.int (1 : Int32))]))
        exact J9 T6 _ X6 N6 e6 _ (by rw [if_neg hc38_7])
    by_cases hc22_4 : (((p1.toUInt32 >>> ((7 : Int32) &&& 31).toUInt32).toInt32) &&& (1 : Int32)) = (0 : Int32)
    · refine own_go (fun t_ k => XS.ifYes X3.here hx rfl (pc0 := 22) (pc' := 29) rfl (hb hby at_22) rfl ((if0 _ _).trans (teq hc22_4).1) (by decide) (by decide) k) ?_
      show WP p e below _ (T3.setTop (mkF m 29 #[.val (.int p1), .val (.int p2), .val (.int p3), .val (.long q4), .second, .val (.long q5), .second, .val (.int z2_S0), .unset, .unset, .unset, .unset, .unset, .unset, .unset, .unset, .unset, .unset, .unset, .unset, .unset, .unset, .unset, .unset, .unset, .unset, .unset, .unset, .unset, .unset, .unset, .unset, .unset, .unset, .unset, .unset, .unset, .unset, .unset, .unset, .unset, .unset, .unset, .unset, .unset] []))
      refine own_go (fun t_ k => XS.iconst X3.here hx rfl (hb hby at_29) k) ?_
      show WP p e below _ (T3.setTop (mkF m 30 #[.val (.int p1), .val (.int p2), .val (.int p3), .val (.long q4), .second, .val (.long q5), .second, .val (.int z2_S0), .unset, .unset, .unset, .unset, .unset, .unset, .unset, .unset, .unset, .unset, .unset, .unset, .unset, .unset, .unset, .unset, .unset, .unset, .unset, .unset, .unset, .unset, .unset, .unset, .unset, .unset, .unset, .unset, .unset, .unset, .unset, .unset, .unset, .unset, .unset, .unset, .unset] [(.int (0 : Int32))]))
      exact J6 T3 _ X3 N3 e3 _ (by rw [if_pos hc22_4])
    · refine own_go (fun t_ k => XS.ifNo X3.here hx rfl (hb hby at_22) rfl ((if0 _ _).trans (feq hc22_4).1) k) ?_
      show WP p e below _ (T3.setTop (mkF m 25 #[.val (.int p1), .val (.int p2), .val (.int p3), .val (.long q4), .second, .val (.long q5), .second, .val (.int z2_S0), .unset, .unset, .unset, .unset, .unset, .unset, .unset, .unset, .unset, .unset, .unset, .unset, .unset, .unset, .unset, .unset, .unset, .unset, .unset, .unset, .unset, .unset, .unset, .unset, .unset, .unset, .unset, .unset, .unset, .unset, .unset, .unset, .unset, .unset, .unset, .unset, .unset] []))
      refine own_go (fun t_ k => XS.iconst X3.here hx rfl (hb hby at_25) k) ?_
      show WP p e below _ (T3.setTop (mkF m 26 #[.val (.int p1), .val (.int p2), .val (.int p3), .val (.long q4), .second, .val (.long q5), .second, .val (.int z2_S0), .unset, .unset, .unset, .unset, .unset, .unset, .unset, .unset, .unset, .unset, .unset, .unset, .unset, .unset, .unset, .unset, .unset, .unset, .unset, .unset, .unset, .unset, .unset, .unset, .unset, .unset, .unset, .unset, .unset, .unset, .unset, .unset, .unset, .unset, .unset, .unset, .unset] [(.int (1 : Int32))]))
      refine own_go (fun t_ k => XS.goto X3.here hx rfl (pc0 := 26) (pc' := 30) rfl (hb hby at_26) (by decide) (by decide) k) ?_
      show WP p e below _ (T3.setTop (mkF m 30 #[.val (.int p1), .val (.int p2), .val (.int p3), .val (.long q4), .second, .val (.long q5), .second, .val (.int z2_S0), .unset, .unset, .unset, .unset, .unset, .unset, .unset, .unset, .unset, .unset, .unset, .unset, .unset, .unset, .unset, .unset, .unset, .unset, .unset, .unset, .unset, .unset, .unset, .unset, .unset, .unset, .unset, .unset, .unset, .unset, .unset, .unset, .unset, .unset, .unset, .unset, .unset] [(.int (1 : Int32))]))
      exact J6 T3 _ X3 N3 e3 _ (by rw [if_neg hc22_4])
  by_cases hc6_1 : (((p1.toUInt32 >>> ((6 : Int32) &&& 31).toUInt32).toInt32) &&& (1 : Int32)) = (0 : Int32)
  · refine own_go (fun t_ k => XS.ifYes X0.here hx rfl (pc0 := 6) (pc' := 13) rfl (hb hby at_6) rfl ((if0 _ _).trans (teq hc6_1).1) (by decide) (by decide) k) ?_
    show WP p e below _ (s₁.setTop (mkF m 13 #[.val (.int p1), .val (.int p2), .val (.int p3), .val (.long q4), .second, .val (.long q5), .second, .unset, .unset, .unset, .unset, .unset, .unset, .unset, .unset, .unset, .unset, .unset, .unset, .unset, .unset, .unset, .unset, .unset, .unset, .unset, .unset, .unset, .unset, .unset, .unset, .unset, .unset, .unset, .unset, .unset, .unset, .unset, .unset, .unset, .unset, .unset, .unset, .unset, .unset] []))
    refine own_go (fun t_ k => XS.iconst X0.here hx rfl (hb hby at_13) k) ?_
    show WP p e below _ (s₁.setTop (mkF m 14 #[.val (.int p1), .val (.int p2), .val (.int p3), .val (.long q4), .second, .val (.long q5), .second, .unset, .unset, .unset, .unset, .unset, .unset, .unset, .unset, .unset, .unset, .unset, .unset, .unset, .unset, .unset, .unset, .unset, .unset, .unset, .unset, .unset, .unset, .unset, .unset, .unset, .unset, .unset, .unset, .unset, .unset, .unset, .unset, .unset, .unset, .unset, .unset, .unset, .unset] [(.int (0 : Int32))]))
    exact J3 s₁ _ X0 N0 e0 _ (by rw [if_pos hc6_1])
  · refine own_go (fun t_ k => XS.ifNo X0.here hx rfl (hb hby at_6) rfl ((if0 _ _).trans (feq hc6_1).1) k) ?_
    show WP p e below _ (s₁.setTop (mkF m 9 #[.val (.int p1), .val (.int p2), .val (.int p3), .val (.long q4), .second, .val (.long q5), .second, .unset, .unset, .unset, .unset, .unset, .unset, .unset, .unset, .unset, .unset, .unset, .unset, .unset, .unset, .unset, .unset, .unset, .unset, .unset, .unset, .unset, .unset, .unset, .unset, .unset, .unset, .unset, .unset, .unset, .unset, .unset, .unset, .unset, .unset, .unset, .unset, .unset, .unset] []))
    refine own_go (fun t_ k => XS.iconst X0.here hx rfl (hb hby at_9) k) ?_
    show WP p e below _ (s₁.setTop (mkF m 10 #[.val (.int p1), .val (.int p2), .val (.int p3), .val (.long q4), .second, .val (.long q5), .second, .unset, .unset, .unset, .unset, .unset, .unset, .unset, .unset, .unset, .unset, .unset, .unset, .unset, .unset, .unset, .unset, .unset, .unset, .unset, .unset, .unset, .unset, .unset, .unset, .unset, .unset, .unset, .unset, .unset, .unset, .unset, .unset, .unset, .unset, .unset, .unset, .unset, .unset] [(.int (1 : Int32))]))
    refine own_go (fun t_ k => XS.goto X0.here hx rfl (pc0 := 10) (pc' := 14) rfl (hb hby at_10) (by decide) (by decide) k) ?_
    show WP p e below _ (s₁.setTop (mkF m 14 #[.val (.int p1), .val (.int p2), .val (.int p3), .val (.long q4), .second, .val (.long q5), .second, .unset, .unset, .unset, .unset, .unset, .unset, .unset, .unset, .unset, .unset, .unset, .unset, .unset, .unset, .unset, .unset, .unset, .unset, .unset, .unset, .unset, .unset, .unset, .unset, .unset, .unset, .unset, .unset, .unset, .unset, .unset, .unset, .unset, .unset, .unset, .unset, .unset, .unset] [(.int (1 : Int32))]))
    exact J3 s₁ _ X0 N0 e0 _ (by rw [if_neg hc6_1])
theorem own_en {args : Array Value} {Z : State} {nm : String} {i : Int32} (ex : (Cond.exactly (Term.static "com/example/covenant_atlas/covenantatlas/model/PartKind" nm "Lcom/example/covenant_atlas/covenantatlas/model/PartKind;") "com/example/covenant_atlas/covenantatlas/model/PartKind").value args Z none Z [] = some true) (eq : (Cond.eq (Term.field (Term.static "com/example/covenant_atlas/covenantatlas/model/PartKind" nm "Lcom/example/covenant_atlas/covenantatlas/model/PartKind;") "java/lang/Enum" "ordinal" "I") (Term.int i)).value args Z none Z [] = some true)
    (wi : (Cond.initialized "com/example/covenant_atlas/covenantatlas/model/PartKind").before args Z = true) (wl : (Cond.laysStatic "com/example/covenant_atlas/covenantatlas/model/PartKind" nm "Lcom/example/covenant_atlas/covenantatlas/model/PartKind;").before args Z = true) : ∃ a : Addr, Sta Z Z.heap "com/example/covenant_atlas/covenantatlas/model/PartKind" nm "Lcom/example/covenant_atlas/covenantatlas/model/PartKind;" (.ref a) ∧ Exa Z Z.heap a "com/example/covenant_atlas/covenantatlas/model/PartKind" ∧ Fld Z Z.heap a "java/lang/Enum" "ordinal" "I" (.int i) := by
  obtain ⟨a, ea⟩ := exa_v ex
  refine ⟨a, Sta.start ea (Or.inr ⟨wi, wl⟩), Exa.start ea ex, ?_⟩
  have ef := fld_at (C := "java/lang/Enum") (n := "ordinal") (dd := "I") ea
  cases hv : Z.fieldOf? a "java/lang/Enum" "ordinal" "I" with
  | none => rw [hv] at ef; simp [Cond.value, ef] at eq
  | some v =>
    rw [hv] at ef
    have : v = .int i := by
      unfold Cond.value at eq
      rw [ef, show (Term.int i).eval args Z none [] Z = some (.int i) from rfl] at eq
      cases v <;> simp at eq
      rw [eq]
    subst this
    exact Fld.start hv
theorem own_ncs {args : Array Value} {s : State} {t : Term} {c : Int32} (e : t.eval args s none [] s = some (.int c)) (h : (Cond.not (Cond.eq t (Term.int (0 : Int32)))).before args s = true) : ¬ c = (0 : Int32) := fun q => by
  subst q
  have a := Cond.before_iff.mp h
  simp [Cond.value, e, Term.eval] at a
theorem own_fne {Z : State} {h : Heap} {a b : Addr} {C n d : String} {v w : Value} (F : Fld Z h a C n d v) (G : Fld Z h b C n d w) (hn : v ≠ w) : a ≠ b := fun q => by
  subst q
  obtain ⟨c1, cf1, k1, i1, f1, a1, a2, -, -, -, -, a7⟩ := F
  obtain ⟨c2, cf2, k2, i2, f2, b1, b2, -, -, -, -, b7⟩ := G
  cases a1.symm.trans b1
  cases a2.symm.trans b2
  exact hn (Option.some.inj (a7.symm.trans b7))
set_option maxRecDepth 65536 in
set_option maxHeartbeats 40000000 in
theorem comes_1 {Post : Tables → Env → Array Value → State → Outcome → State → Prop} (hpost : ∀ tb e args s v u, (limb_1_1.after args s (.returned v) u = true ∧ limb_1_2.after args s (.returned v) u = true ∧ True) → ReturnedEndW s (.returned v) u (Jvm.fieldLocs frame_1_writes args s ++ Jvm.arrayLocs frame_1_arrays args s ++ Jvm.staticLocs frame_1_statics s) 40 1216 → Post tb e args s (.returned v) u) :
    ArmFor flags0 classFile x code maxLocals ret World_1 tables_1 room_1 Calls_1 rest_1 Pre_1 Post := by
  intro l hfl _ _ p e ha hc hk s m args below hf hA hF happ hP
  obtain ⟨hcalls, hrest, hpre⟩ := hP
  obtain ⟨-, -, -, hnamed, -, -, -, hat⟩ := (Spec.applies_iff hf).mp happ
  obtain ⟨hg, hn⟩ := and_e (Cond.before_iff.mp (show (Jvm.Cond.and given_1 narrow_1).before args s = true from hpre))
  obtain ⟨g1, g2⟩ := and_e hg
  obtain ⟨g3, g4⟩ := and_e g2
  obtain ⟨g5, g6⟩ := and_e g4
  obtain ⟨g7, g8⟩ := and_e g6
  obtain ⟨g9, g10⟩ := and_e g8
  obtain ⟨w0, w1, w2, w3, w4, rfl⟩ : ∃ w0 w1 w2 w3 w4 : Value, args = #[w0, w1, w2, w3, w4] := by
    have hs : args.size = 5 := by simpa [Cond.value, given_1] using g1
    obtain ⟨L⟩ := args
    match L, hs with
    | [w0, w1, w2, w3, w4], _ => exact ⟨w0, w1, w2, w3, w4, rfl⟩
  have hw := fun d (hd : d ∈ tables_1) => atoms_spec (ws := Jvm.Cond.code x code maxLocals ret :: tables_1) hat d (List.mem_cons_of_mem _ hd)
  have hfit : Fit s := fun {y c} hc i hi => by
    obtain ⟨ha, rfl⟩ := Array.getElem?_eq_some_iff.mp hc
    have q := List.all_eq_true.mp ((Array.all_eq_true_iff_forall_mem.mp hF) _ (Array.getElem_mem ha)) i (List.mem_range.mpr hi)
    simpa [Array.getElem?_eq_getElem hi] using q
  obtain ⟨hsets, hown0⟩ := atoms_of _ (rest_1_c_eq ▸ (show rest_1_c.before _ s = true from hrest))
  have hr0 := Cond.before_iff.mp hown0
  obtain ⟨i0, ei0⟩ := is_v g3
  obtain rfl : w0 = (.int i0) := Option.some.inj ei0
  obtain ⟨i1, ei1⟩ := is_v g5
  obtain rfl : w1 = (.int i1) := Option.some.inj ei1
  obtain ⟨i2, ei2⟩ := is_v g7
  obtain rfl : w2 = (.int i2) := Option.some.inj ei2
  obtain ⟨i3, ei3⟩ := isL_v g9
  obtain rfl : w3 = (.long i3) := Option.some.inj ei3
  obtain ⟨i4, ei4⟩ := isL_v g10
  obtain rfl : w4 = (.long i4) := Option.some.inj ei4
  obtain ⟨m1, r1⟩ := and_e hn
  obtain ⟨m2, r2⟩ := and_e r1
  obtain ⟨m3, r3⟩ := and_e r2
  obtain ⟨m4, r4⟩ := and_e r3
  obtain ⟨m5, r5⟩ := and_e r4
  obtain ⟨m6, r6⟩ := and_e r5
  obtain ⟨m7, r7⟩ := and_e r6
  obtain ⟨m8, r8⟩ := and_e r7
  obtain ⟨m9, r9⟩ := and_e r8
  obtain ⟨kq0, Sen0, Een0, Fen0⟩ := own_en (nm := "ARTICLE") (i := (0 : Int32)) m1 m6 (hw _ (List.mem_of_getElem? (i := 33) rfl)) (hw _ (List.mem_of_getElem? (i := 34) rfl))
  obtain ⟨kq1, Sen1, Een1, Fen1⟩ := own_en (nm := "SECTION") (i := (1 : Int32)) m3 m5 (hw _ (List.mem_of_getElem? (i := 33) rfl)) (hw _ (List.mem_of_getElem? (i := 82) rfl))
  obtain ⟨kq2, Sen2, Een2, Fen2⟩ := own_en (nm := "ANNEX") (i := (2 : Int32)) m2 m4 (hw _ (List.mem_of_getElem? (i := 33) rfl)) (hw _ (List.mem_of_getElem? (i := 80) rfl))
  obtain ⟨kq3, Sen3, Een3, Fen3⟩ := own_en (nm := "SCHEDULE") (i := (3 : Int32)) m9 r9 (hw _ (List.mem_of_getElem? (i := 33) rfl)) (hw _ (List.mem_of_getElem? (i := 96) rfl))
  obtain ⟨kq4, Sen4, Een4, Fen4⟩ := own_en (nm := "EXHIBIT") (i := (4 : Int32)) m7 m8 (hw _ (List.mem_of_getElem? (i := 33) rfl)) (hw _ (List.mem_of_getElem? (i := 94) rfl))
  obtain ⟨cs, ecs⟩ := is_v (Cond.before_iff.mp (hsets _ (List.mem_of_getElem? (i := 1) rfl)))
  have SCs := Sta.start ecs (Or.inl (hsets _ (List.mem_of_getElem? (i := 0) rfl)))
  have hcs := own_ncs ecs (hsets _ (List.mem_of_getElem? (i := 2) rfl))
  have hKD : KD kq0 kq1 kq2 kq3 kq4 := ⟨⟨own_fne Fen0 Fen1 (by decide), own_fne Fen0 Fen2 (by decide), own_fne Fen0 Fen3 (by decide), own_fne Fen0 Fen4 (by decide)⟩, ⟨own_fne Fen1 Fen2 (by decide), own_fne Fen1 Fen3 (by decide), own_fne Fen1 Fen4 (by decide)⟩, ⟨own_fne Fen2 Fen3 (by decide), own_fne Fen2 Fen4 (by decide)⟩, own_fne Fen3 Fen4 (by decide)⟩
  have hCz : CHv s EL0 s.vm s.heap := CHv.start (own_EW hw) (fun p hp => hcalls.1 p hp) (hsets _ (List.mem_of_getElem? (i := 2) rfl)) (hw _ (List.mem_of_getElem? (i := 19) rfl)) (hw _ (List.mem_of_getElem? (i := 5) rfl))
  obtain ⟨n, o, h1, h2, h3, _, L, rfl, ⟨rfl, N⟩, hq⟩ := rm0 l s _ hw tables_1 i0 i1 i2 i3 i4 cs kq0 kq1 kq2 kq3 kq4 s.heap s.heap.size (Nat.le_refl _) SCs Sen0 Een0 Sen1 Een1 Sen2 Een2 Sen3 Een3 Sen4 Een4 hcs hKD hCz p e ha hc hk s m _ below hf ((Spec.applies_iff_loose hf).mp happ).1 ⟨rfl, rfl, rfl⟩ trivial
  refine ⟨n, _, h1, h2, h3, hpost _ _ _ _ _ _ ⟨Cond.after_iff.mpr rfl, Cond.after_iff.mpr (eq_i res_at (Term.int_eval (1)) rfl), trivial⟩ ⟨hq.1, hq.2.1, hq.2.2.1, (hq.2.2.2.sift fun y hy => Or.inr (N y hy)).mono (by decide) (by decide)⟩⟩
theorem main_1_1 : Claimed_1_1 := comes_1 fun _ _ _ _ _ _ h hF => ⟨h.1, hF⟩
theorem main_1_2 : Claimed_1_2 := comes_1 fun _ _ _ _ _ _ h hF => ⟨h.2.1, hF⟩
end Jvm.Pilot.@@N@@
namespace Jvm.Pilot.@@N@@
open Jvm Jvm.ClassFile Sem Op Lib Jvm.Free Jvm.Stand Jvm.Pilot.@@N@@.Jvm.D
/-! MADE BY PROGRAM (witnessworld.py) out of the Statement's table words and the real class files: 23 classes; the members and pool entries that the words name. The judged class is class 1, her method 4. -/
namespace start1
open Jvm.ClassFile
def u (s : String) : CpInfo := .utf8 (stringToUtf16 s)
/-- a pool by its gaps: so many unusable entries, then the entry; so many at the end -/
def gap : Nat → List CpInfo → List CpInfo
  | 0, r => r
  | n + 1, r => .unusable :: gap n r
def poolList (es : List (Nat × CpInfo)) (last : Nat) : List CpInfo := es.foldr (fun e r => gap e.1 (e.2 :: r)) (gap last [])
def pool (es : List (Nat × CpInfo)) (last : Nat) : Array CpInfo := ⟨poolList es last⟩
def fileOf (pool : Array CpInfo) (this : Nat) (attrs : Array Attribute := #[]) (ms : Array MethodInfo := #[]) (fl : Nat := 33) (sup : Nat := 0) (ifs : Array Nat := #[]) (fds : Array FieldInfo := #[]) : ClassFile where
  minorVersion := 0
  majorVersion := 65
  constantPool := pool
  accessFlags := fl
  thisClass := this
  superClass := sup
  interfaces := ifs
  fields := fds
  methods := ms
  attributes := attrs
def plain (name : String) (sup : Option ClassId) : Class where
  name := name
  kind := .ordinary
  loader := none
  accessFlags := 33
  super := sup
  interfaces := #[]
  cf := none
  fields := #[]
  methods := #[]
  instanceTypes := #[]
  staticTypes := #[]
  resolved := #[]
  callSites := []
  init := .initialized
  statics := none
  mirror := none

def pool0 : Array CpInfo := pool [(5, u "<init>"), (0, u "()V"), (1, .class_ 10), (1, u "java/lang/Object")] 113

def k0c0 : Code := { maxStack := 0, maxLocals := 1, code := object_method_1_code, exceptionTable := #[], attributes := #[] }
def k0m0 : Method := { name := "<init>", desc := "()V", sig := { parameters := [], returnType := none }, accessFlags := 1, code := some k0c0 }
/-- java/lang/Object -/
def k0 : Class := { plain "java/lang/Object" none with
  accessFlags := 33
  interfaces := #[]
  cf := some (fileOf pool0 8 #[] #[{ accessFlags := 1, nameIndex := 5, descriptorIndex := 6, attributes := #[] }] 33 0 #[] #[])
  fields := #[]
  methods := #[k0m0]
  instanceTypes := #[]
  staticTypes := #[]
  resolved := Array.replicate 124 none
  statics := none }

def pool1 : Array CpInfo := pool [(2, .class_ 4), (1, u "java/lang/Object"), (0, u "<init>"), (0, u "()V"), (0, .fieldref 8 9), (0, .class_ 10), (0, .nameAndType 11 12), (0, u "com/example/covenant_atlas/covenantatlas/model/PartKind"), (0, u "ARTICLE"), (0, u "Lcom/example/covenant_atlas/covenantatlas/model/PartKind;"), (0, .fieldref 8 14), (0, .nameAndType 15 12), (0, u "SECTION"), (0, .fieldref 8 17), (0, .nameAndType 18 12), (0, u "ANNEX"), (0, .fieldref 8 20), (0, .nameAndType 21 12), (0, u "SCHEDULE"), (0, .fieldref 8 23), (0, .nameAndType 24 12), (0, u "EXHIBIT"), (0, .class_ 26), (0, u "java/lang/String"), (0, .methodref 25 28), (0, .nameAndType 5 29), (0, u "([C)V"), (0, .methodref 31 32), (0, .class_ 33), (0, .nameAndType 34 35), (0, u "com/example/covenant_atlas/covenantatlas/model/OutlineEntryEqualsPinLaw"), (0, u "str"), (0, u "(III)Ljava/lang/String;"), (0, .class_ 37), (0, u "com/example/covenant_atlas/covenantatlas/model/OutlineEntry"), (0, .methodref 31 39), (0, .nameAndType 40 41), (0, u "kindOf"), (0, u "(I)Lcom/example/covenant_atlas/covenantatlas/model/PartKind;"), (0, .methodref 36 43), (0, .nameAndType 5 44), (0, u "(Lcom/example/covenant_atlas/covenantatlas/model/PartKind;Ljava/lang/String;Ljava/lang/String;II)V"), (0, .methodref 31 46), (0, .nameAndType 47 48), (0, u "sameStr"), (0, u "(IIIIII)Z"), (0, .methodref 36 50), (0, .nameAndType 51 52), (0, u "equals"), (0, u "(Ljava/lang/Object;)Z"), (3, u "law"), (0, u "(IIIJJ)Z")] 2

def k1m0 : Method := { name := "<init>", desc := "()V", sig := { parameters := [], returnType := none }, accessFlags := 1, code := none }
def k1c1 : Code := { maxStack := 2, maxLocals := 1, code := method_2_code, exceptionTable := #[], attributes := #[] }
def k1m1 : Method := { name := "kindOf", desc := "(I)Lcom/example/covenant_atlas/covenantatlas/model/PartKind;", sig := { parameters := [.int], returnType := some (.object "com/example/covenant_atlas/covenantatlas/model/PartKind") }, accessFlags := 10, code := some k1c1 }
def k1c2 : Code := { maxStack := 6, maxLocals := 3, code := method_3_code, exceptionTable := #[], attributes := #[] }
def k1m2 : Method := { name := "str", desc := "(III)Ljava/lang/String;", sig := { parameters := [.int, .int, .int], returnType := some (.object "java/lang/String") }, accessFlags := 10, code := some k1c2 }
def k1c3 : Code := { maxStack := 2, maxLocals := 6, code := method_4_code, exceptionTable := #[], attributes := #[] }
def k1m3 : Method := { name := "sameStr", desc := "(IIIIII)Z", sig := { parameters := [.int, .int, .int, .int, .int, .int], returnType := some .boolean }, accessFlags := 10, code := some k1c3 }
def k1c4 : Code := { maxStack := 7, maxLocals := 45, code := code, exceptionTable := #[], attributes := #[] }
def k1m4 : Method := { name := "law", desc := "(IIIJJ)Z", sig := { parameters := [.int, .int, .int, .long, .long], returnType := some .boolean }, accessFlags := 9, code := some k1c4 }
/-- com/example/covenant_atlas/covenantatlas/model/OutlineEntryEqualsPinLaw -/
def k1 : Class := { plain "com/example/covenant_atlas/covenantatlas/model/OutlineEntryEqualsPinLaw" (some 0) with
  accessFlags := 49
  interfaces := #[]
  cf := some (fileOf pool1 31 #[] #[{ accessFlags := 1, nameIndex := 5, descriptorIndex := 6, attributes := #[] }, { accessFlags := 10, nameIndex := 40, descriptorIndex := 41, attributes := #[] }, { accessFlags := 10, nameIndex := 34, descriptorIndex := 35, attributes := #[] }, { accessFlags := 10, nameIndex := 47, descriptorIndex := 48, attributes := #[] }, { accessFlags := 9, nameIndex := 56, descriptorIndex := 57, attributes := #[] }] 49 2 #[] #[])
  fields := #[]
  methods := #[k1m0, k1m1, k1m2, k1m3, k1m4]
  instanceTypes := #[]
  staticTypes := #[]
  resolved := Array.replicate 60 none
  statics := none }

def pool2 : Array CpInfo := pool [(1, .class_ 2), (0, u "java/io/Serializable"), (0, .class_ 4), (0, u "java/lang/Object")] 2

/-- java/io/Serializable -/
def k2 : Class := { plain "java/io/Serializable" (some 0) with
  accessFlags := 1537
  interfaces := #[]
  cf := some (fileOf pool2 1 #[] #[] 1537 3 #[] #[])
  fields := #[]
  methods := #[]
  instanceTypes := #[]
  staticTypes := #[]
  resolved := Array.replicate 7 none
  statics := none }

def pool3 : Array CpInfo := pool [(1, .class_ 2), (0, u "java/lang/Comparable"), (0, .class_ 4), (0, u "java/lang/Object")] 7

/-- java/lang/Comparable -/
def k3 : Class := { plain "java/lang/Comparable" (some 0) with
  accessFlags := 1537
  interfaces := #[]
  cf := some (fileOf pool3 1 #[] #[] 1537 3 #[] #[])
  fields := #[]
  methods := #[]
  instanceTypes := #[]
  staticTypes := #[]
  resolved := Array.replicate 12 none
  statics := none }

def pool4 : Array CpInfo := pool [(2, .class_ 4), (1, u "java/lang/CharSequence"), (42, .class_ 48), (0, u "java/lang/CharSequence$1CodePointIterator"), (10, .class_ 60), (0, u "java/lang/CharSequence$1CharIterator"), (5, .class_ 67), (0, u "java/lang/Object")] 63

/-- java/lang/CharSequence -/
def k4 : Class := { plain "java/lang/CharSequence" (some 0) with
  accessFlags := 1537
  interfaces := #[]
  cf := some (fileOf pool4 2 #[.nestMembers #[47, 59]] #[] 1537 66 #[] #[])
  fields := #[]
  methods := #[]
  instanceTypes := #[]
  staticTypes := #[]
  resolved := Array.replicate 131 none
  statics := none }

def pool5 : Array CpInfo := pool [(1, .class_ 2), (0, u "java/lang/constant/Constable"), (0, .class_ 4), (0, u "java/lang/Object")] 6

/-- java/lang/constant/Constable -/
def k5 : Class := { plain "java/lang/constant/Constable" (some 0) with
  accessFlags := 1537
  interfaces := #[]
  cf := some (fileOf pool5 1 #[] #[] 1537 3 #[] #[])
  fields := #[]
  methods := #[]
  instanceTypes := #[]
  staticTypes := #[]
  resolved := Array.replicate 11 none
  statics := none }

def pool6 : Array CpInfo := pool [(1, .class_ 2), (0, u "java/lang/constant/ConstantDesc"), (0, .class_ 4), (0, u "java/lang/Object")] 32

/-- java/lang/constant/ConstantDesc -/
def k6 : Class := { plain "java/lang/constant/ConstantDesc" (some 0) with
  accessFlags := 1537
  interfaces := #[]
  cf := some (fileOf pool6 1 #[] #[] 1537 3 #[] #[])
  fields := #[]
  methods := #[]
  instanceTypes := #[]
  staticTypes := #[]
  resolved := Array.replicate 37 none
  statics := none }

def pool7 : Array CpInfo := pool [(1, .methodref 2 3), (0, .class_ 4), (0, .nameAndType 5 6), (0, u "java/lang/Object"), (0, u "<init>"), (0, u "()V"), (0, .string 8), (0, u ""), (0, .fieldref 10 11), (0, .class_ 12), (0, .nameAndType 13 14), (0, u "java/lang/String"), (0, u "value"), (0, u "[B"), (0, .fieldref 10 16), (0, .nameAndType 17 18), (0, u "coder"), (0, u "B"), (2, u "hash"), (0, u "I"), (2, u "hashIsZero"), (0, u "Z"), (0, .methodref 10 28), (0, .nameAndType 5 29), (0, u "([CIILjava/lang/Void;)V"), (8, .fieldref 10 39), (0, .nameAndType 40 26), (0, u "COMPACT_STRINGS"), (1, .class_ 44), (1, u "java/lang/StringUTF16"), (0, u "compress"), (1, .methodref 42 48), (0, .nameAndType 49 50), (0, u "coderFromArrayLen"), (0, u "([BI)B"), (56, .class_ 109), (1, u "java/lang/StringLatin1"), (67, .methodref 42 178), (0, .nameAndType 45 179), (0, u "([CII)[B"), (361, .methodref 107 542), (0, .nameAndType 543 544), (0, u "equals"), (0, u "([B[B)Z"), (28, u "(Ljava/lang/Object;)Z"), (1, .class_ 576), (0, u "java/lang/CharSequence"), (22, u "CASE_INSENSITIVE_ORDER"), (0, u "Ljava/util/Comparator;"), (409, u "([C)V"), (90, u "serialPersistentFields"), (0, u "[Ljava/io/ObjectStreamField;"), (0, .class_ 1104), (0, u "java/lang/String$CaseInsensitiveComparator"), (1, .class_ 1107), (0, u "java/io/Serializable"), (0, .class_ 1109), (0, u "java/lang/Comparable"), (0, .class_ 1111), (0, u "java/lang/constant/Constable"), (0, .class_ 1113), (0, u "java/lang/constant/ConstantDesc"), (2, u "serialVersionUID"), (0, u "J"), (3, u "REPL"), (0, u "C"), (2, u "LATIN1"), (1, u "UTF16")] 323

def k7m0 : Method := { name := "<init>", desc := "()V", sig := { parameters := [], returnType := none }, accessFlags := 1, code := none }
def k7c1 : Code := { maxStack := 5, maxLocals := 2, code := jdk_42_method_3_code, exceptionTable := #[], attributes := #[] }
def k7m1 : Method := { name := "<init>", desc := "([C)V", sig := { parameters := [(.array .char)], returnType := none }, accessFlags := 1, code := some k7c1 }
def k7c2 : Code := { maxStack := 2, maxLocals := 3, code := jdk_42_method_66_code, exceptionTable := #[], attributes := #[] }
def k7m2 : Method := { name := "equals", desc := "(Ljava/lang/Object;)Z", sig := { parameters := [(.object "java/lang/Object")], returnType := some .boolean }, accessFlags := 1, code := some k7c2 }
def k7c3 : Code := { maxStack := 4, maxLocals := 6, code := jdk_42_method_149_code, exceptionTable := #[], attributes := #[] }
def k7m3 : Method := { name := "<init>", desc := "([CIILjava/lang/Void;)V", sig := { parameters := [(.array .char), .int, .int, (.object "java/lang/Void")], returnType := none }, accessFlags := 2, code := some k7c3 }
/-- java/lang/String -/
def k7 : Class := { plain "java/lang/String" (some 0) with
  accessFlags := 49
  interfaces := #[2, 3, 4, 5, 6]
  cf := some (fileOf pool7 10 #[.nestMembers #[1103]] #[{ accessFlags := 1, nameIndex := 5, descriptorIndex := 6, attributes := #[] }, { accessFlags := 1, nameIndex := 5, descriptorIndex := 1010, attributes := #[] }, { accessFlags := 1, nameIndex := 543, descriptorIndex := 573, attributes := #[] }, { accessFlags := 2, nameIndex := 5, descriptorIndex := 29, attributes := #[] }] 49 2 #[1106, 1108, 575, 1110, 1112] #[{ accessFlags := 18, nameIndex := 13, descriptorIndex := 14, attributes := #[] }, { accessFlags := 18, nameIndex := 17, descriptorIndex := 18, attributes := #[] }, { accessFlags := 2, nameIndex := 21, descriptorIndex := 22, attributes := #[] }, { accessFlags := 2, nameIndex := 25, descriptorIndex := 26, attributes := #[] }, { accessFlags := 26, nameIndex := 1116, descriptorIndex := 1117, attributes := #[] }, { accessFlags := 24, nameIndex := 40, descriptorIndex := 26, attributes := #[] }, { accessFlags := 26, nameIndex := 1101, descriptorIndex := 1102, attributes := #[] }, { accessFlags := 26, nameIndex := 1121, descriptorIndex := 1122, attributes := #[] }, { accessFlags := 25, nameIndex := 599, descriptorIndex := 600, attributes := #[] }, { accessFlags := 24, nameIndex := 1125, descriptorIndex := 18, attributes := #[] }, { accessFlags := 24, nameIndex := 1127, descriptorIndex := 18, attributes := #[] }])
  fields := #[{ name := "value", type := (.array .byte), accessFlags := 18, slot := 0, constantValue := 0 }, { name := "coder", type := .byte, accessFlags := 18, slot := 1, constantValue := 0 }, { name := "hash", type := .int, accessFlags := 2, slot := 2, constantValue := 0 }, { name := "hashIsZero", type := .boolean, accessFlags := 2, slot := 3, constantValue := 0 }, { name := "serialVersionUID", type := .long, accessFlags := 26, slot := 0, constantValue := 0 }, { name := "COMPACT_STRINGS", type := .boolean, accessFlags := 24, slot := 1, constantValue := 0 }, { name := "serialPersistentFields", type := (.array (.object "java/io/ObjectStreamField")), accessFlags := 26, slot := 2, constantValue := 0 }, { name := "REPL", type := .char, accessFlags := 26, slot := 3, constantValue := 0 }, { name := "CASE_INSENSITIVE_ORDER", type := (.object "java/util/Comparator"), accessFlags := 25, slot := 4, constantValue := 0 }, { name := "LATIN1", type := .byte, accessFlags := 24, slot := 5, constantValue := 0 }, { name := "UTF16", type := .byte, accessFlags := 24, slot := 6, constantValue := 0 }]
  methods := #[k7m0, k7m1, k7m2, k7m3]
  instanceTypes := #[(.array .byte), .byte, .int, .boolean]
  staticTypes := #[.long, .boolean, (.array (.object "java/io/ObjectStreamField")), .char, (.object "java/util/Comparator"), .byte, .byte]
  resolved := Array.replicate 1451 none
  statics := some 0 }

def pool8 : Array CpInfo := pool [(1, .methodref 2 3), (0, .class_ 4), (0, .nameAndType 5 6), (0, u "java/lang/Object"), (0, u "<init>"), (0, u "()V"), (0, .methodref 8 9), (0, .class_ 10), (0, .nameAndType 11 12), (0, u "java/util/Objects"), (0, u "requireNonNull"), (0, u "(Ljava/lang/Object;)Ljava/lang/Object;"), (0, .class_ 14), (0, u "com/example/covenant_atlas/covenantatlas/model/PartKind"), (0, .fieldref 16 17), (0, .class_ 18), (0, .nameAndType 19 20), (0, u "com/example/covenant_atlas/covenantatlas/model/OutlineEntry"), (0, u "kind"), (0, u "Lcom/example/covenant_atlas/covenantatlas/model/PartKind;"), (0, .class_ 22), (0, u "java/lang/String"), (0, .fieldref 16 24), (0, .nameAndType 25 26), (0, u "number"), (0, u "Ljava/lang/String;"), (0, .fieldref 16 28), (0, .nameAndType 29 26), (0, u "heading"), (0, .fieldref 16 31), (0, .nameAndType 32 33), (0, u "line"), (0, u "I"), (0, .fieldref 16 35), (0, .nameAndType 36 33), (0, u "column"), (0, .methodref 21 38), (0, .nameAndType 39 40), (0, u "equals"), (0, u "(Ljava/lang/Object;)Z"), (18, u "(Lcom/example/covenant_atlas/covenantatlas/model/PartKind;Ljava/lang/String;Ljava/lang/String;II)V")] 24

def k8c0 : Code := { maxStack := 2, maxLocals := 6, code := prog_34_method_1_code, exceptionTable := #[], attributes := #[] }
def k8m0 : Method := { name := "<init>", desc := "(Lcom/example/covenant_atlas/covenantatlas/model/PartKind;Ljava/lang/String;Ljava/lang/String;II)V", sig := { parameters := [(.object "com/example/covenant_atlas/covenantatlas/model/PartKind"), (.object "java/lang/String"), (.object "java/lang/String"), .int, .int], returnType := none }, accessFlags := 1, code := some k8c0 }
def k8c1 : Code := { maxStack := 2, maxLocals := 3, code := prog_34_method_7_code, exceptionTable := #[], attributes := #[] }
def k8m1 : Method := { name := "equals", desc := "(Ljava/lang/Object;)Z", sig := { parameters := [(.object "java/lang/Object")], returnType := some .boolean }, accessFlags := 1, code := some k8c1 }
/-- com/example/covenant_atlas/covenantatlas/model/OutlineEntry -/
def k8 : Class := { plain "com/example/covenant_atlas/covenantatlas/model/OutlineEntry" (some 0) with
  accessFlags := 33
  interfaces := #[]
  cf := some (fileOf pool8 16 #[] #[{ accessFlags := 1, nameIndex := 5, descriptorIndex := 59, attributes := #[] }, { accessFlags := 1, nameIndex := 39, descriptorIndex := 40, attributes := #[] }] 33 2 #[] #[{ accessFlags := 18, nameIndex := 19, descriptorIndex := 20, attributes := #[] }, { accessFlags := 18, nameIndex := 25, descriptorIndex := 26, attributes := #[] }, { accessFlags := 18, nameIndex := 29, descriptorIndex := 26, attributes := #[] }, { accessFlags := 18, nameIndex := 32, descriptorIndex := 33, attributes := #[] }, { accessFlags := 18, nameIndex := 36, descriptorIndex := 33, attributes := #[] }])
  fields := #[{ name := "kind", type := (.object "com/example/covenant_atlas/covenantatlas/model/PartKind"), accessFlags := 18, slot := 0, constantValue := 0 }, { name := "number", type := (.object "java/lang/String"), accessFlags := 18, slot := 1, constantValue := 0 }, { name := "heading", type := (.object "java/lang/String"), accessFlags := 18, slot := 2, constantValue := 0 }, { name := "line", type := .int, accessFlags := 18, slot := 3, constantValue := 0 }, { name := "column", type := .int, accessFlags := 18, slot := 4, constantValue := 0 }]
  methods := #[k8m0, k8m1]
  instanceTypes := #[(.object "com/example/covenant_atlas/covenantatlas/model/PartKind"), (.object "java/lang/String"), (.object "java/lang/String"), .int, .int]
  staticTypes := #[]
  resolved := Array.replicate 84 none
  statics := none }

def pool9 : Array CpInfo := pool [(2, .class_ 4), (1, u "java/lang/Enum"), (0, u "name"), (0, u "Ljava/lang/String;"), (2, u "ordinal"), (0, u "I"), (1, .class_ 14), (1, u "java/lang/Object"), (4, u "hash"), (86, .class_ 108), (1, u "java/lang/Enum$EnumDesc"), (2, .class_ 112), (0, u "java/lang/constant/Constable"), (0, .class_ 114), (0, u "java/lang/Comparable"), (0, .class_ 116), (0, u "java/io/Serializable")] 87

/-- java/lang/Enum -/
def k9 : Class := { plain "java/lang/Enum" (some 0) with
  accessFlags := 1057
  interfaces := #[5, 3, 2]
  cf := some (fileOf pool9 2 #[.nestMembers #[106]] #[] 1057 12 #[111, 113, 115] #[{ accessFlags := 18, nameIndex := 5, descriptorIndex := 6, attributes := #[] }, { accessFlags := 18, nameIndex := 9, descriptorIndex := 10, attributes := #[] }, { accessFlags := 2, nameIndex := 19, descriptorIndex := 10, attributes := #[] }])
  fields := #[{ name := "name", type := (.object "java/lang/String"), accessFlags := 18, slot := 0, constantValue := 0 }, { name := "ordinal", type := .int, accessFlags := 18, slot := 1, constantValue := 0 }, { name := "hash", type := .int, accessFlags := 2, slot := 2, constantValue := 0 }]
  methods := #[]
  instanceTypes := #[(.object "java/lang/String"), .int, .int]
  staticTypes := #[]
  resolved := Array.replicate 204 none
  statics := none }

def pool10 : Array CpInfo := pool [(1, .class_ 2), (0, u "com/example/covenant_atlas/covenantatlas/model/PartKind"), (2, u "ARTICLE"), (0, u "Lcom/example/covenant_atlas/covenantatlas/model/PartKind;"), (2, u "SECTION"), (2, u "ANNEX"), (2, u "SCHEDULE"), (2, u "EXHIBIT"), (2, u "$VALUES"), (0, u "[Lcom/example/covenant_atlas/covenantatlas/model/PartKind;"), (6, .class_ 31), (1, u "java/lang/Enum")] 44

/-- com/example/covenant_atlas/covenantatlas/model/PartKind -/
def k10 : Class := { plain "com/example/covenant_atlas/covenantatlas/model/PartKind" (some 9) with
  accessFlags := 16433
  interfaces := #[]
  cf := some (fileOf pool10 1 #[] #[] 16433 29 #[] #[{ accessFlags := 16409, nameIndex := 5, descriptorIndex := 6, attributes := #[] }, { accessFlags := 16409, nameIndex := 9, descriptorIndex := 6, attributes := #[] }, { accessFlags := 16409, nameIndex := 12, descriptorIndex := 6, attributes := #[] }, { accessFlags := 16409, nameIndex := 15, descriptorIndex := 6, attributes := #[] }, { accessFlags := 16409, nameIndex := 18, descriptorIndex := 6, attributes := #[] }, { accessFlags := 4122, nameIndex := 21, descriptorIndex := 22, attributes := #[] }])
  fields := #[{ name := "ARTICLE", type := (.object "com/example/covenant_atlas/covenantatlas/model/PartKind"), accessFlags := 16409, slot := 0, constantValue := 0 }, { name := "SECTION", type := (.object "com/example/covenant_atlas/covenantatlas/model/PartKind"), accessFlags := 16409, slot := 1, constantValue := 0 }, { name := "ANNEX", type := (.object "com/example/covenant_atlas/covenantatlas/model/PartKind"), accessFlags := 16409, slot := 2, constantValue := 0 }, { name := "SCHEDULE", type := (.object "com/example/covenant_atlas/covenantatlas/model/PartKind"), accessFlags := 16409, slot := 3, constantValue := 0 }, { name := "EXHIBIT", type := (.object "com/example/covenant_atlas/covenantatlas/model/PartKind"), accessFlags := 16409, slot := 4, constantValue := 0 }, { name := "$VALUES", type := (.array (.object "com/example/covenant_atlas/covenantatlas/model/PartKind")), accessFlags := 4122, slot := 5, constantValue := 0 }]
  methods := #[]
  instanceTypes := #[(.object "java/lang/String"), .int, .int]
  staticTypes := #[(.object "com/example/covenant_atlas/covenantatlas/model/PartKind"), (.object "com/example/covenant_atlas/covenantatlas/model/PartKind"), (.object "com/example/covenant_atlas/covenantatlas/model/PartKind"), (.object "com/example/covenant_atlas/covenantatlas/model/PartKind"), (.object "com/example/covenant_atlas/covenantatlas/model/PartKind"), (.array (.object "com/example/covenant_atlas/covenantatlas/model/PartKind"))]
  resolved := Array.replicate 76 none
  statics := some 1 }

def pool11 : Array CpInfo := pool [(2, .class_ 4), (1, u "java/lang/Object"), (0, u "<init>"), (0, u "()V"), (35, .class_ 44), (1, u "java/util/Objects"), (0, u "requireNonNull"), (0, u "(Ljava/lang/Object;)Ljava/lang/Object;")] 137

def k11m0 : Method := { name := "<init>", desc := "()V", sig := { parameters := [], returnType := none }, accessFlags := 2, code := none }
def k11c1 : Code := { maxStack := 2, maxLocals := 1, code := jdk_31_method_10_code, exceptionTable := #[], attributes := #[] }
def k11m1 : Method := { name := "requireNonNull", desc := "(Ljava/lang/Object;)Ljava/lang/Object;", sig := { parameters := [(.object "java/lang/Object")], returnType := some (.object "java/lang/Object") }, accessFlags := 9, code := some k11c1 }
/-- java/util/Objects -/
def k11 : Class := { plain "java/util/Objects" (some 0) with
  accessFlags := 49
  interfaces := #[]
  cf := some (fileOf pool11 42 #[] #[{ accessFlags := 2, nameIndex := 5, descriptorIndex := 6, attributes := #[] }, { accessFlags := 9, nameIndex := 45, descriptorIndex := 46, attributes := #[] }] 49 2 #[] #[])
  fields := #[]
  methods := #[k11m0, k11m1]
  instanceTypes := #[]
  staticTypes := #[]
  resolved := Array.replicate 184 none
  statics := none }

def pool12 : Array CpInfo := pool [(4, .class_ 6), (1, u "java/lang/Object"), (0, u "<init>"), (0, u "()V"), (5, .class_ 16), (1, u "java/lang/StringLatin1"), (104, u "$assertionsDisabled"), (0, u "Z"), (98, .class_ 223), (1, u "java/lang/StringLatin1$LinesSpliterator"), (57, u "equals"), (0, u "([B[B)Z"), (107, .class_ 391), (0, u "java/lang/StringLatin1$CharsSpliterator")] 3

def k12m0 : Method := { name := "<init>", desc := "()V", sig := { parameters := [], returnType := none }, accessFlags := 0, code := none }
def k12c1 : Code := { maxStack := 3, maxLocals := 3, code := jdk_43_method_13_code, exceptionTable := #[], attributes := #[] }
def k12m1 : Method := { name := "equals", desc := "([B[B)Z", sig := { parameters := [(.array .byte), (.array .byte)], returnType := some .boolean }, accessFlags := 9, code := some k12c1 }
/-- java/lang/StringLatin1 -/
def k12 : Class := { plain "java/lang/StringLatin1" (some 0) with
  accessFlags := 48
  interfaces := #[]
  cf := some (fileOf pool12 14 #[.nestMembers #[390, 221]] #[{ accessFlags := 0, nameIndex := 7, descriptorIndex := 8, attributes := #[] }, { accessFlags := 9, nameIndex := 281, descriptorIndex := 282, attributes := #[] }] 48 4 #[] #[{ accessFlags := 4120, nameIndex := 121, descriptorIndex := 122, attributes := #[] }])
  fields := #[{ name := "$assertionsDisabled", type := .boolean, accessFlags := 4120, slot := 0, constantValue := 0 }]
  methods := #[k12m0, k12m1]
  instanceTypes := #[]
  staticTypes := #[.boolean]
  resolved := Array.replicate 395 none
  statics := none }

def pool13 : Array CpInfo := pool [(6, .class_ 8), (1, u "java/lang/Object"), (0, u "<init>"), (0, u "()V"), (1, .class_ 14), (1, u "java/lang/StringUTF16"), (31, u "$assertionsDisabled"), (0, u "Z"), (13, u "HI_BYTE_SHIFT"), (0, u "I"), (2, u "LO_BYTE_SHIFT"), (49, .methodref 12 116), (0, .nameAndType 117 118), (0, u "compress"), (0, u "([CI[BII)I"), (3, u "([CII)[B"), (138, u "coderFromArrayLen"), (0, u "([BI)B"), (106, .class_ 371), (1, u "java/lang/StringUTF16$LinesSpliterator"), (58, u "MAX_LENGTH"), (196, .class_ 628), (0, u "java/lang/StringUTF16$CodePointsSpliterator"), (0, .class_ 630), (0, u "java/lang/StringUTF16$CharsSpliterator")] 4

def k13m0 : Method := { name := "<init>", desc := "()V", sig := { parameters := [], returnType := none }, accessFlags := 0, code := none }
def k13c1 : Code := { maxStack := 2, maxLocals := 2, code := jdk_52_method_15_code, exceptionTable := #[], attributes := #[] }
def k13m1 : Method := { name := "coderFromArrayLen", desc := "([BI)B", sig := { parameters := [(.array .byte), .int], returnType := some .byte }, accessFlags := 8, code := some k13c1 }
def k13c2 : Code := { maxStack := 5, maxLocals := 6, code := jdk_52_method_16_code, exceptionTable := #[], attributes := #[] }
def k13m2 : Method := { name := "compress", desc := "([CII)[B", sig := { parameters := [(.array .char), .int, .int], returnType := some (.array .byte) }, accessFlags := 9, code := some k13c2 }
def k13c3 : Code := { maxStack := 3, maxLocals := 7, code := jdk_52_method_21_code, exceptionTable := #[], attributes := #[] }
def k13m3 : Method := { name := "compress", desc := "([CI[BII)I", sig := { parameters := [(.array .char), .int, (.array .byte), .int, .int], returnType := some .int }, accessFlags := 9, code := some k13c3 }
/-- java/lang/StringUTF16 -/
def k13 : Class := { plain "java/lang/StringUTF16" (some 0) with
  accessFlags := 48
  interfaces := #[]
  cf := some (fileOf pool13 12 #[.nestMembers #[627, 629, 369]] #[{ accessFlags := 0, nameIndex := 9, descriptorIndex := 10, attributes := #[] }, { accessFlags := 8, nameIndex := 261, descriptorIndex := 262, attributes := #[] }, { accessFlags := 9, nameIndex := 117, descriptorIndex := 122, attributes := #[] }, { accessFlags := 9, nameIndex := 117, descriptorIndex := 118, attributes := #[] }] 48 6 #[] #[{ accessFlags := 26, nameIndex := 61, descriptorIndex := 62, attributes := #[] }, { accessFlags := 26, nameIndex := 65, descriptorIndex := 62, attributes := #[] }, { accessFlags := 24, nameIndex := 430, descriptorIndex := 62, attributes := #[] }, { accessFlags := 4120, nameIndex := 46, descriptorIndex := 47, attributes := #[] }])
  fields := #[{ name := "HI_BYTE_SHIFT", type := .int, accessFlags := 26, slot := 0, constantValue := 0 }, { name := "LO_BYTE_SHIFT", type := .int, accessFlags := 26, slot := 1, constantValue := 0 }, { name := "MAX_LENGTH", type := .int, accessFlags := 24, slot := 2, constantValue := 0 }, { name := "$assertionsDisabled", type := .boolean, accessFlags := 4120, slot := 3, constantValue := 0 }]
  methods := #[k13m0, k13m1, k13m2, k13m3]
  instanceTypes := #[]
  staticTypes := #[.int, .int, .int, .boolean]
  resolved := Array.replicate 635 none
  statics := none }

def pool14 : Array CpInfo := pool [(2, .class_ 4), (1, u "java/lang/Object"), (0, u "<init>"), (0, u "()V"), (17, .class_ 26), (1, u "jdk/internal/util/Preconditions"), (28, .class_ 56), (0, u "jdk/internal/util/Preconditions$4"), (57, .class_ 115), (0, u "jdk/internal/util/Preconditions$1"), (7, u "SIOOBE_FORMATTER"), (0, u "Ljava/util/function/BiFunction;"), (0, .class_ 126), (0, u "jdk/internal/util/Preconditions$2"), (3, u "AIOOBE_FORMATTER"), (0, .class_ 132), (0, u "jdk/internal/util/Preconditions$3"), (3, u "IOOBE_FORMATTER")] 57

def k14m0 : Method := { name := "<init>", desc := "()V", sig := { parameters := [], returnType := none }, accessFlags := 1, code := none }
/-- jdk/internal/util/Preconditions -/
def k14 : Class := { plain "jdk/internal/util/Preconditions" (some 0) with
  accessFlags := 33
  interfaces := #[]
  cf := some (fileOf pool14 24 #[.nestMembers #[55, 131, 125, 114]] #[{ accessFlags := 1, nameIndex := 5, descriptorIndex := 6, attributes := #[] }] 33 2 #[] #[{ accessFlags := 25, nameIndex := 123, descriptorIndex := 124, attributes := #[] }, { accessFlags := 25, nameIndex := 130, descriptorIndex := 124, attributes := #[] }, { accessFlags := 25, nameIndex := 136, descriptorIndex := 124, attributes := #[] }])
  fields := #[{ name := "SIOOBE_FORMATTER", type := (.object "java/util/function/BiFunction"), accessFlags := 25, slot := 0, constantValue := 0 }, { name := "AIOOBE_FORMATTER", type := (.object "java/util/function/BiFunction"), accessFlags := 25, slot := 1, constantValue := 0 }, { name := "IOOBE_FORMATTER", type := (.object "java/util/function/BiFunction"), accessFlags := 25, slot := 2, constantValue := 0 }]
  methods := #[k14m0]
  instanceTypes := #[]
  staticTypes := #[(.object "java/util/function/BiFunction"), (.object "java/util/function/BiFunction"), (.object "java/util/function/BiFunction")]
  resolved := Array.replicate 194 none
  statics := some 2 }

def pool15 : Array CpInfo := pool [(9, u "<init>"), (6, .class_ 18), (1, u "java/lang/Object"), (0, u "()V"), (1, .class_ 23), (1, u "jdk/internal/util/ArraysSupport"), (0, u "LOG2_ARRAY_LONG_INDEX_SCALE"), (0, u "I"), (2, u "U"), (0, u "Ljdk/internal/misc/Unsafe;"), (8, u "BIG_ENDIAN"), (0, u "Z"), (8, u "LOG2_BYTE_BIT_SIZE"), (4, u "LOG2_ARRAY_INT_INDEX_SCALE"), (54, u "JLA"), (0, u "Ljdk/internal/access/JavaLangAccess;"), (11, u "LOG2_ARRAY_BOOLEAN_INDEX_SCALE"), (9, u "LOG2_ARRAY_BYTE_INDEX_SCALE"), (5, u "LOG2_ARRAY_CHAR_INDEX_SCALE"), (5, u "LOG2_ARRAY_SHORT_INDEX_SCALE"), (18, u "LOG2_ARRAY_FLOAT_INDEX_SCALE"), (24, u "LOG2_ARRAY_DOUBLE_INDEX_SCALE"), (89, u "T_BOOLEAN"), (2, u "T_CHAR"), (1, u "T_FLOAT"), (1, u "T_DOUBLE"), (1, u "T_BYTE"), (1, u "T_SHORT"), (1, u "T_INT"), (1, u "T_LONG"), (1, u "SOFT_MAX_ARRAY_LENGTH")] 83

def k15m0 : Method := { name := "<init>", desc := "()V", sig := { parameters := [], returnType := none }, accessFlags := 2, code := none }
/-- jdk/internal/util/ArraysSupport -/
def k15 : Class := { plain "jdk/internal/util/ArraysSupport" (some 0) with
  accessFlags := 33
  interfaces := #[]
  cf := some (fileOf pool15 21 #[] #[{ accessFlags := 2, nameIndex := 9, descriptorIndex := 19, attributes := #[] }] 33 16 #[] #[{ accessFlags := 24, nameIndex := 28, descriptorIndex := 29, attributes := #[] }, { accessFlags := 26, nameIndex := 38, descriptorIndex := 39, attributes := #[] }, { accessFlags := 25, nameIndex := 121, descriptorIndex := 25, attributes := #[] }, { accessFlags := 25, nameIndex := 131, descriptorIndex := 25, attributes := #[] }, { accessFlags := 25, nameIndex := 137, descriptorIndex := 25, attributes := #[] }, { accessFlags := 25, nameIndex := 143, descriptorIndex := 25, attributes := #[] }, { accessFlags := 25, nameIndex := 53, descriptorIndex := 25, attributes := #[] }, { accessFlags := 25, nameIndex := 24, descriptorIndex := 25, attributes := #[] }, { accessFlags := 25, nameIndex := 162, descriptorIndex := 25, attributes := #[] }, { accessFlags := 25, nameIndex := 187, descriptorIndex := 25, attributes := #[] }, { accessFlags := 26, nameIndex := 48, descriptorIndex := 25, attributes := #[] }, { accessFlags := 25, nameIndex := 277, descriptorIndex := 25, attributes := #[] }, { accessFlags := 25, nameIndex := 280, descriptorIndex := 25, attributes := #[] }, { accessFlags := 25, nameIndex := 282, descriptorIndex := 25, attributes := #[] }, { accessFlags := 25, nameIndex := 284, descriptorIndex := 25, attributes := #[] }, { accessFlags := 25, nameIndex := 286, descriptorIndex := 25, attributes := #[] }, { accessFlags := 25, nameIndex := 288, descriptorIndex := 25, attributes := #[] }, { accessFlags := 25, nameIndex := 290, descriptorIndex := 25, attributes := #[] }, { accessFlags := 25, nameIndex := 292, descriptorIndex := 25, attributes := #[] }, { accessFlags := 26, nameIndex := 108, descriptorIndex := 109, attributes := #[] }, { accessFlags := 25, nameIndex := 294, descriptorIndex := 25, attributes := #[] }])
  fields := #[{ name := "U", type := (.object "jdk/internal/misc/Unsafe"), accessFlags := 24, slot := 0, constantValue := 0 }, { name := "BIG_ENDIAN", type := .boolean, accessFlags := 26, slot := 1, constantValue := 0 }, { name := "LOG2_ARRAY_BOOLEAN_INDEX_SCALE", type := .int, accessFlags := 25, slot := 2, constantValue := 0 }, { name := "LOG2_ARRAY_BYTE_INDEX_SCALE", type := .int, accessFlags := 25, slot := 3, constantValue := 0 }, { name := "LOG2_ARRAY_CHAR_INDEX_SCALE", type := .int, accessFlags := 25, slot := 4, constantValue := 0 }, { name := "LOG2_ARRAY_SHORT_INDEX_SCALE", type := .int, accessFlags := 25, slot := 5, constantValue := 0 }, { name := "LOG2_ARRAY_INT_INDEX_SCALE", type := .int, accessFlags := 25, slot := 6, constantValue := 0 }, { name := "LOG2_ARRAY_LONG_INDEX_SCALE", type := .int, accessFlags := 25, slot := 7, constantValue := 0 }, { name := "LOG2_ARRAY_FLOAT_INDEX_SCALE", type := .int, accessFlags := 25, slot := 8, constantValue := 0 }, { name := "LOG2_ARRAY_DOUBLE_INDEX_SCALE", type := .int, accessFlags := 25, slot := 9, constantValue := 0 }, { name := "LOG2_BYTE_BIT_SIZE", type := .int, accessFlags := 26, slot := 10, constantValue := 0 }, { name := "T_BOOLEAN", type := .int, accessFlags := 25, slot := 11, constantValue := 0 }, { name := "T_CHAR", type := .int, accessFlags := 25, slot := 12, constantValue := 0 }, { name := "T_FLOAT", type := .int, accessFlags := 25, slot := 13, constantValue := 0 }, { name := "T_DOUBLE", type := .int, accessFlags := 25, slot := 14, constantValue := 0 }, { name := "T_BYTE", type := .int, accessFlags := 25, slot := 15, constantValue := 0 }, { name := "T_SHORT", type := .int, accessFlags := 25, slot := 16, constantValue := 0 }, { name := "T_INT", type := .int, accessFlags := 25, slot := 17, constantValue := 0 }, { name := "T_LONG", type := .int, accessFlags := 25, slot := 18, constantValue := 0 }, { name := "JLA", type := (.object "jdk/internal/access/JavaLangAccess"), accessFlags := 26, slot := 19, constantValue := 0 }, { name := "SOFT_MAX_ARRAY_LENGTH", type := .int, accessFlags := 25, slot := 20, constantValue := 0 }]
  methods := #[k15m0]
  instanceTypes := #[]
  staticTypes := #[(.object "jdk/internal/misc/Unsafe"), .boolean, .int, .int, .int, .int, .int, .int, .int, .int, .int, .int, .int, .int, .int, .int, .int, .int, .int, (.object "jdk/internal/access/JavaLangAccess"), .int]
  resolved := Array.replicate 378 none
  statics := none }

def pool16 : Array CpInfo := pool [(1, u "java/lang/Cloneable"), (0, .class_ 1), (0, u "java/lang/Object"), (0, .class_ 3)] 3

/-- java/lang/Cloneable -/
def k16 : Class := { plain "java/lang/Cloneable" (some 0) with
  accessFlags := 1537
  interfaces := #[]
  cf := some (fileOf pool16 2 #[] #[] 1537 4 #[] #[])
  fields := #[]
  methods := #[]
  instanceTypes := #[]
  staticTypes := #[]
  resolved := Array.replicate 8 none
  statics := none }

/-- the primitive byte -/
def k17 : Class := { plain "byte" none with kind := .primitive 'B', accessFlags := 0x411 }
/-- [B -/
def k18 : Class := { plain "[B" (some 0) with kind := .array 17 .byte, interfaces := #[16, 2], accessFlags := 1041 }

/-- the primitive char -/
def k19 : Class := { plain "char" none with kind := .primitive 'C', accessFlags := 0x411 }
/-- [C -/
def k20 : Class := { plain "[C" (some 0) with kind := .array 19 .char, interfaces := #[16, 2], accessFlags := 1041 }

/-- the primitive int -/
def k21 : Class := { plain "int" none with kind := .primitive 'I', accessFlags := 0x411 }
/-- [I -/
def k22 : Class := { plain "[I" (some 0) with kind := .array 21 .int, interfaces := #[16, 2], accessFlags := 1041 }

def heap : Heap := #[{ cls := 7, slots := #[.long 0, .int 1, .null, .int 0, .null, .int 0, .int 0], vm := .statics 7 },
  { cls := 10, slots := #[.ref 3, .ref 4, .ref 5, .ref 6, .ref 7, .null], vm := .statics 10 },
  { cls := 14, slots := #[.null, .null, .null], vm := .statics 14 },
  { cls := 10, slots := #[.null, .int 0, .int 0], vm := .none },
  { cls := 10, slots := #[.null, .int 1, .int 0], vm := .none },
  { cls := 10, slots := #[.null, .int 2, .int 0], vm := .none },
  { cls := 10, slots := #[.null, .int 3, .int 0], vm := .none },
  { cls := 10, slots := #[.null, .int 4, .int 0], vm := .none }]
def classes : Array Class := #[k0, k1, k2, k3, k4, k5, k6, k7, k8, k9, k10, k11, k12, k13, k14, k15, k16, k17, k18, k19, k20, k21, k22]
def interned : List (Array UInt16 × Addr) := []
def slotsUsed : Nat := 31
def theMethod : MethodId := ⟨1, 4⟩
def args0 : Array Value := #[.int 5, .int 6, .int 7, .long 1, .long 2]
def aboutOver (below : List Frame) : State where
  vm := { classes := classes, interned := interned.toArray }
  heap := heap
  slotsUsed := slotsUsed
  threads := #[{ frames := .invoking theMethod args0 :: below }]
def below0 : List Frame := [.native { method := ⟨0, 0⟩, args := #[] }]
def about1 : State := aboutOver below0
def p0 : Program := .bare "" "" ""
def e0 : Env := launch0.env 0 0 0
theorem w_frames : about1.frames = Frame.invoking theMethod args0 :: below0 := rfl
set_option maxRecDepth 65536 in
theorem w_args : argsFit about1.vm theMethod args0 = true := by decide +kernel
set_option maxRecDepth 65536 in
theorem w_heap : heapFits about1 = true := by decide +kernel
set_option maxRecDepth 65536 in
theorem w_runnable : about1.curStatus? = some .runnable := by decide +kernel
set_option maxRecDepth 65536 in
theorem w_alone : about1.alone = true := by decide +kernel
set_option maxRecDepth 65536 in
theorem w_named : about1.methodNamed? x = some theMethod := by decide +kernel
set_option maxRecDepth 65536 in
theorem w_hears : about1.hears theMethod below0 = true := by decide +kernel
set_option maxRecDepth 65536 in
theorem w_ripe : about1.ripe theMethod args0 below0 = true := by decide +kernel
theorem w_running : about1.status = .running := rfl
set_option maxRecDepth 65536 in
theorem w_room : about1.hasRoom e0.platform room_1 = true :=
  launch0.hasRoom_least _ room_1 (by decide +kernel) (by decide +kernel) (by decide +kernel) (by decide +kernel) (by decide +kernel) (by decide +kernel)
theorem allAtoms_all (ts : List Jvm.Cond) (a : Array Jvm.Value) (st : Jvm.State) : (allAtoms ts).before a st = ts.all (fun c => c.before a st) := by
  induction ts with
  | nil => rfl
  | cons c t ih =>
    show (Jvm.Cond.and c (allAtoms t)).before a st = _
    rw [Jvm.Cond.before_and, ih, List.all_cons]
def words1 : List Jvm.Cond := Jvm.Cond.code x code maxLocals ret :: tables_1
/-- a 'code' word, met by the world's own term for the bytes: nothing is compared byte by byte -/
theorem code_word {y : MethodName} {bytes : ByteArray} {mx : Nat} {rt : Option FieldType} {a : Array Value} {s : State} {m : MethodId} {meth : Method} {c : Code} (h1 : s.methodNamed? y = some m) (h2 : s.vm.method? m = some meth) (h3 : meth.code = some c) (h4 : c.code = bytes)
    (h5 : (c.maxLocals == mx && c.exceptionTable.isEmpty && decide (c.maxStack ≤ mostOperands) && decide (meth.sig.returnType = rt) && !meth.locks && decide (parseMethodDescriptor y.desc = some meth.sig)) = true) : (Jvm.Cond.code y bytes mx rt).before a s = true := by
  simp only [Bool.and_eq_true, beq_iff_eq, Bool.not_eq_true', decide_eq_true_eq] at h5
  obtain ⟨⟨⟨⟨⟨g1, g2⟩, g3⟩, g4⟩, g5⟩, g6⟩ := h5
  simp [Cond.before, Cond.holds, Cond.value, h1, h2, h3, h4, g1, g2, g3, g4, g5, g6]
def isCode : Jvm.Cond → Bool
  | .code _ _ _ _ => true
  | _ => false
theorem all_split {L : List Jvm.Cond} {P : Jvm.Cond → Bool} (h1 : L.all (fun c => isCode c || P c) = true) (h2 : ∀ c ∈ L.filter isCode, P c = true) : L.all P = true := by
  refine List.all_eq_true.mpr fun c hc => ?_
  have h := List.all_eq_true.mp h1 c hc
  rcases Bool.eq_false_or_eq_true (isCode c) with hi | hi
  · exact h2 c (List.mem_filter.mpr ⟨hc, hi⟩)
  · simpa [hi] using h
set_option maxRecDepth 65536 in
theorem w_c0 : (Jvm.Cond.code x code maxLocals ret).before args0 about1 = true := code_word (m := ⟨1, 4⟩) (meth := k1m4) (c := k1c4) (by decide +kernel) rfl rfl rfl (by decide +kernel)
set_option maxRecDepth 65536 in
theorem w_c1 : (Jvm.Cond.code ({ cls := "com/example/covenant_atlas/covenantatlas/model/OutlineEntryEqualsPinLaw", name := "str", desc := "(III)Ljava/lang/String;" } : Jvm.MethodName) method_3_code (3 : Nat) (Option.some (Jvm.ClassFile.FieldType.object "java/lang/String"))).before args0 about1 = true := code_word (m := ⟨1, 2⟩) (meth := k1m2) (c := k1c2) (by decide +kernel) rfl rfl rfl (by decide +kernel)
set_option maxRecDepth 65536 in
theorem w_c2 : (Jvm.Cond.code ({ cls := "java/lang/String", name := "<init>", desc := "([C)V" } : Jvm.MethodName) jdk_42_method_3_code (2 : Nat) (Option.none : Option Jvm.ClassFile.FieldType)).before args0 about1 = true := code_word (m := ⟨7, 1⟩) (meth := k7m1) (c := k7c1) (by decide +kernel) rfl rfl rfl (by decide +kernel)
set_option maxRecDepth 65536 in
theorem w_c3 : (Jvm.Cond.code ({ cls := "java/lang/String", name := "<init>", desc := "([CIILjava/lang/Void;)V" } : Jvm.MethodName) jdk_42_method_149_code (6 : Nat) (Option.none : Option Jvm.ClassFile.FieldType)).before args0 about1 = true := code_word (m := ⟨7, 3⟩) (meth := k7m3) (c := k7c3) (by decide +kernel) rfl rfl rfl (by decide +kernel)
set_option maxRecDepth 65536 in
theorem w_c4 : (Jvm.Cond.code ({ cls := "java/lang/Object", name := "<init>", desc := "()V" } : Jvm.MethodName) object_method_1_code (1 : Nat) (Option.none : Option Jvm.ClassFile.FieldType)).before args0 about1 = true := code_word (m := ⟨0, 0⟩) (meth := k0m0) (c := k0c0) (by decide +kernel) rfl rfl rfl (by decide +kernel)
set_option maxRecDepth 65536 in
theorem w_c5 : (Jvm.Cond.code ({ cls := "com/example/covenant_atlas/covenantatlas/model/OutlineEntryEqualsPinLaw", name := "kindOf", desc := "(I)Lcom/example/covenant_atlas/covenantatlas/model/PartKind;" } : Jvm.MethodName) method_2_code (1 : Nat) (Option.some (Jvm.ClassFile.FieldType.object "com/example/covenant_atlas/covenantatlas/model/PartKind"))).before args0 about1 = true := code_word (m := ⟨1, 1⟩) (meth := k1m1) (c := k1c1) (by decide +kernel) rfl rfl rfl (by decide +kernel)
set_option maxRecDepth 65536 in
theorem w_c6 : (Jvm.Cond.code ({ cls := "com/example/covenant_atlas/covenantatlas/model/OutlineEntry", name := "<init>", desc := "(Lcom/example/covenant_atlas/covenantatlas/model/PartKind;Ljava/lang/String;Ljava/lang/String;II)V" } : Jvm.MethodName) prog_34_method_1_code (6 : Nat) (Option.none : Option Jvm.ClassFile.FieldType)).before args0 about1 = true := code_word (m := ⟨8, 0⟩) (meth := k8m0) (c := k8c0) (by decide +kernel) rfl rfl rfl (by decide +kernel)
set_option maxRecDepth 65536 in
theorem w_c7 : (Jvm.Cond.code ({ cls := "java/util/Objects", name := "requireNonNull", desc := "(Ljava/lang/Object;)Ljava/lang/Object;" } : Jvm.MethodName) jdk_31_method_10_code (1 : Nat) (Option.some (Jvm.ClassFile.FieldType.object "java/lang/Object"))).before args0 about1 = true := code_word (m := ⟨11, 1⟩) (meth := k11m1) (c := k11c1) (by decide +kernel) rfl rfl rfl (by decide +kernel)
set_option maxRecDepth 65536 in
theorem w_c8 : (Jvm.Cond.code ({ cls := "com/example/covenant_atlas/covenantatlas/model/OutlineEntryEqualsPinLaw", name := "sameStr", desc := "(IIIIII)Z" } : Jvm.MethodName) method_4_code (6 : Nat) (Option.some Jvm.ClassFile.FieldType.boolean)).before args0 about1 = true := code_word (m := ⟨1, 3⟩) (meth := k1m3) (c := k1c3) (by decide +kernel) rfl rfl rfl (by decide +kernel)
set_option maxRecDepth 65536 in
theorem w_c9 : (Jvm.Cond.code ({ cls := "com/example/covenant_atlas/covenantatlas/model/OutlineEntry", name := "equals", desc := "(Ljava/lang/Object;)Z" } : Jvm.MethodName) prog_34_method_7_code (3 : Nat) (Option.some Jvm.ClassFile.FieldType.boolean)).before args0 about1 = true := code_word (m := ⟨8, 1⟩) (meth := k8m1) (c := k8c1) (by decide +kernel) rfl rfl rfl (by decide +kernel)
set_option maxRecDepth 65536 in
theorem w_c10 : (Jvm.Cond.code ({ cls := "java/lang/String", name := "equals", desc := "(Ljava/lang/Object;)Z" } : Jvm.MethodName) jdk_42_method_66_code (3 : Nat) (Option.some Jvm.ClassFile.FieldType.boolean)).before args0 about1 = true := code_word (m := ⟨7, 2⟩) (meth := k7m2) (c := k7c2) (by decide +kernel) rfl rfl rfl (by decide +kernel)
set_option maxRecDepth 65536 in
theorem w_c11 : (Jvm.Cond.code ({ cls := "java/lang/StringLatin1", name := "equals", desc := "([B[B)Z" } : Jvm.MethodName) jdk_43_method_13_code (3 : Nat) (Option.some Jvm.ClassFile.FieldType.boolean)).before args0 about1 = true := code_word (m := ⟨12, 1⟩) (meth := k12m1) (c := k12c1) (by decide +kernel) rfl rfl rfl (by decide +kernel)
set_option maxRecDepth 65536 in
theorem w_c12 : (Jvm.Cond.code ({ cls := "java/lang/StringUTF16", name := "compress", desc := "([CII)[B" } : Jvm.MethodName) jdk_52_method_16_code (6 : Nat) (Option.some (Jvm.ClassFile.FieldType.array Jvm.ClassFile.FieldType.byte))).before args0 about1 = true := code_word (m := ⟨13, 2⟩) (meth := k13m2) (c := k13c2) (by decide +kernel) rfl rfl rfl (by decide +kernel)
set_option maxRecDepth 65536 in
theorem w_c13 : (Jvm.Cond.code ({ cls := "java/lang/StringUTF16", name := "compress", desc := "([CI[BII)I" } : Jvm.MethodName) jdk_52_method_21_code (7 : Nat) (Option.some Jvm.ClassFile.FieldType.int)).before args0 about1 = true := code_word (m := ⟨13, 3⟩) (meth := k13m3) (c := k13c3) (by decide +kernel) rfl rfl rfl (by decide +kernel)
set_option maxRecDepth 65536 in
theorem w_c14 : (Jvm.Cond.code ({ cls := "java/lang/StringUTF16", name := "coderFromArrayLen", desc := "([BI)B" } : Jvm.MethodName) jdk_52_method_15_code (2 : Nat) (Option.some Jvm.ClassFile.FieldType.byte)).before args0 about1 = true := code_word (m := ⟨13, 1⟩) (meth := k13m1) (c := k13c1) (by decide +kernel) rfl rfl rfl (by decide +kernel)
def codes1 : List Jvm.Cond := [Jvm.Cond.code x code maxLocals ret, Jvm.Cond.code ({ cls := "com/example/covenant_atlas/covenantatlas/model/OutlineEntryEqualsPinLaw", name := "str", desc := "(III)Ljava/lang/String;" } : Jvm.MethodName) method_3_code (3 : Nat) (Option.some (Jvm.ClassFile.FieldType.object "java/lang/String")), Jvm.Cond.code ({ cls := "java/lang/String", name := "<init>", desc := "([C)V" } : Jvm.MethodName) jdk_42_method_3_code (2 : Nat) (Option.none : Option Jvm.ClassFile.FieldType), Jvm.Cond.code ({ cls := "java/lang/String", name := "<init>", desc := "([CIILjava/lang/Void;)V" } : Jvm.MethodName) jdk_42_method_149_code (6 : Nat) (Option.none : Option Jvm.ClassFile.FieldType), Jvm.Cond.code ({ cls := "java/lang/Object", name := "<init>", desc := "()V" } : Jvm.MethodName) object_method_1_code (1 : Nat) (Option.none : Option Jvm.ClassFile.FieldType), Jvm.Cond.code ({ cls := "com/example/covenant_atlas/covenantatlas/model/OutlineEntryEqualsPinLaw", name := "kindOf", desc := "(I)Lcom/example/covenant_atlas/covenantatlas/model/PartKind;" } : Jvm.MethodName) method_2_code (1 : Nat) (Option.some (Jvm.ClassFile.FieldType.object "com/example/covenant_atlas/covenantatlas/model/PartKind")), Jvm.Cond.code ({ cls := "com/example/covenant_atlas/covenantatlas/model/OutlineEntry", name := "<init>", desc := "(Lcom/example/covenant_atlas/covenantatlas/model/PartKind;Ljava/lang/String;Ljava/lang/String;II)V" } : Jvm.MethodName) prog_34_method_1_code (6 : Nat) (Option.none : Option Jvm.ClassFile.FieldType), Jvm.Cond.code ({ cls := "java/util/Objects", name := "requireNonNull", desc := "(Ljava/lang/Object;)Ljava/lang/Object;" } : Jvm.MethodName) jdk_31_method_10_code (1 : Nat) (Option.some (Jvm.ClassFile.FieldType.object "java/lang/Object")), Jvm.Cond.code ({ cls := "com/example/covenant_atlas/covenantatlas/model/OutlineEntryEqualsPinLaw", name := "sameStr", desc := "(IIIIII)Z" } : Jvm.MethodName) method_4_code (6 : Nat) (Option.some Jvm.ClassFile.FieldType.boolean), Jvm.Cond.code ({ cls := "com/example/covenant_atlas/covenantatlas/model/OutlineEntry", name := "equals", desc := "(Ljava/lang/Object;)Z" } : Jvm.MethodName) prog_34_method_7_code (3 : Nat) (Option.some Jvm.ClassFile.FieldType.boolean), Jvm.Cond.code ({ cls := "java/lang/String", name := "equals", desc := "(Ljava/lang/Object;)Z" } : Jvm.MethodName) jdk_42_method_66_code (3 : Nat) (Option.some Jvm.ClassFile.FieldType.boolean), Jvm.Cond.code ({ cls := "java/lang/StringLatin1", name := "equals", desc := "([B[B)Z" } : Jvm.MethodName) jdk_43_method_13_code (3 : Nat) (Option.some Jvm.ClassFile.FieldType.boolean), Jvm.Cond.code ({ cls := "java/lang/StringUTF16", name := "compress", desc := "([CII)[B" } : Jvm.MethodName) jdk_52_method_16_code (6 : Nat) (Option.some (Jvm.ClassFile.FieldType.array Jvm.ClassFile.FieldType.byte)), Jvm.Cond.code ({ cls := "java/lang/StringUTF16", name := "compress", desc := "([CI[BII)I" } : Jvm.MethodName) jdk_52_method_21_code (7 : Nat) (Option.some Jvm.ClassFile.FieldType.int), Jvm.Cond.code ({ cls := "java/lang/StringUTF16", name := "coderFromArrayLen", desc := "([BI)B" } : Jvm.MethodName) jdk_52_method_15_code (2 : Nat) (Option.some Jvm.ClassFile.FieldType.byte)]
set_option maxRecDepth 65536 in
theorem codes_eq : words1.filter isCode = codes1 := rfl
theorem w_codes : ∀ c ∈ words1.filter isCode, c.before args0 about1 = true := by
  rw [codes_eq]
  intro c hc
  simp only [codes1, List.mem_cons, List.not_mem_nil, or_false] at hc
  rcases hc with rfl | rfl | rfl | rfl | rfl | rfl | rfl | rfl | rfl | rfl | rfl | rfl | rfl | rfl | rfl
  · exact w_c0
  · exact w_c1
  · exact w_c2
  · exact w_c3
  · exact w_c4
  · exact w_c5
  · exact w_c6
  · exact w_c7
  · exact w_c8
  · exact w_c9
  · exact w_c10
  · exact w_c11
  · exact w_c12
  · exact w_c13
  · exact w_c14
set_option maxRecDepth 65536 in
theorem w_t1 : (words1.take 24).all (fun c => isCode c || c.before args0 about1) = true := by decide +kernel
set_option maxRecDepth 65536 in
theorem w_t2 : ((words1.drop 24).take 24).all (fun c => isCode c || c.before args0 about1) = true := by decide +kernel
set_option maxRecDepth 65536 in
theorem w_t3 : (((words1.drop 24).drop 24).take 24).all (fun c => isCode c || c.before args0 about1) = true := by decide +kernel
set_option maxRecDepth 65536 in
theorem w_t4 : ((((words1.drop 24).drop 24).drop 24).take 24).all (fun c => isCode c || c.before args0 about1) = true := by decide +kernel
set_option maxRecDepth 65536 in
theorem w_t5 : ((((words1.drop 24).drop 24).drop 24).drop 24).all (fun c => isCode c || c.before args0 about1) = true := by decide +kernel
theorem w_tables : (allAtoms (Jvm.Cond.code x code maxLocals ret :: tables_1)).before args0 about1 = true := by
  rw [allAtoms_all]
  show words1.all (fun c => c.before args0 about1) = true
  refine all_split ?_ w_codes
  rw [← List.take_append_drop 24 words1, List.all_append, w_t1, ← List.take_append_drop 24 (words1.drop 24), List.all_append, w_t2, ← List.take_append_drop 24 ((words1.drop 24).drop 24), List.all_append, w_t3, ← List.take_append_drop 24 (((words1.drop 24).drop 24).drop 24), List.all_append, w_t4, w_t5]
  rfl
set_option maxRecDepth 65536 in
theorem w_rest : rest_1_c.before args0 about1 = true := by decide +kernel
set_option maxRecDepth 65536 in
theorem w_case : (Jvm.Cond.and given_1 narrow_1).before args0 about1 = true := by decide +kernel
set_option maxRecDepth 65536 in
theorem w_consts : constsHeld consts_1 about1 := Jvm.Lit.constsHeldB_iff.mp (by decide +kernel)
theorem w_applies : (headSpec (Jvm.Cond.code x code maxLocals ret :: tables_1) room_1).applies x e0.platform about1 = true :=
  (Spec.applies_iff w_frames).mpr ⟨w_running, w_runnable, w_alone, w_named, w_hears, w_ripe, w_room, w_tables⟩
theorem atStart : AtStart classFile x code maxLocals ret World_1 tables_1 room_1 Calls_1 rest_1 Pre_1 launch0 p0 e0 about1 theMethod args0 below0 :=
  ⟨lists_1, trivial, launch0.admits_env _ _ _, launch0.least_env, fairChoices_fair.cas, fairChoices_fair.clock, w_frames, w_args, w_heap, w_applies, ⟨w_consts, trivial⟩, w_rest, w_case⟩
end start1
theorem witness_1 : WitnessClaimed_1 := ⟨start1.p0, start1.e0, start1.about1, start1.theMethod, start1.args0, start1.below0, start1.atStart⟩
end Jvm.Pilot.@@N@@
