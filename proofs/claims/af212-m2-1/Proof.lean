import JvmDerived
import JvmDerived.Pilot.@@N@@Statement
import JvmDerived.Pilot.@@N@@Code
set_option linter.unusedVariables false
set_option linter.unusedSimpArgs false
namespace Jvm.Pilot.@@N@@
open Jvm Jvm.ClassFile Sem Op Lib Jvm.Free Jvm.Stand Jvm.LawKit Jvm.RoadKit Bundle Jvm.Pilot.@@N@@.Jvm.D
/-! The end of a walk, as a goal: from U the run ends, and G holds of the end. -/
def WP (p : Program) (e : Env) (below : List Frame) (G : State → Outcome → Prop) (U : State) : Prop :=
  ∃ s₂ o, Steps p.tables e below U s₂ ∧ s₂.status = .running ∧ Ended s₂ below o ∧ G s₂ o
def GG (Q : Option Value → Heap → List Loc → Prop) (s : State) (k n : Nat) : State → Outcome → Prop :=
  fun t o => ∃ v L, o = .returned v ∧ Q v t.heap L ∧ FrameEnd s o t L k n
theorem own_go {p : Program} {e : Env} {below : List Frame} {G : State → Outcome → Prop} {U V : State} (h : ∀ t, Steps p.tables e below V t → Steps p.tables e below U t) (w : WP p e below G V) : WP p e below G U := by
  obtain ⟨t, o, h1, h2⟩ := w
  exact ⟨t, o, h _ h1, h2⟩
/-- what a body that writes nothing leaves -/
def PQ (h0 : Heap) (n0 : Nat) (w : Value) (v : Option Value) (h : Heap) (L : List Loc) : Prop := v = some w ∧ Fr n0 L ∧ h = h0
/-- what the law leaves -/
def Q0 (n0 : Nat) (v : Option Value) (h : Heap) (L : List Loc) : Prop := v = some (.int 1) ∧ Fr n0 L
section Own
variable {p : Program} {l : Launch} {e : Env} {R : Room} {s : State} {m : MethodId} {args : Array Value} {below : List Frame} {meth : Method} {c : Code} {T : State} {locs : List Loc} {cells slots : Nat}
theorem own_mono (X : Stand p l e R s m args below meth c T locs cells slots) {k n : Nat} (h1 : cells ≤ k) (h2 : slots ≤ n) : Stand p l e R s m args below meth c T locs k n :=
  ⟨X.admits, X.cas, X.clock, X.frames, X.room, X.hears, X.method, X.code, X.here, X.tail, X.warmed, X.limits, X.bytes, X.same.mono h1 h2⟩
theorem own_retI (X : Stand p l e R s m args below meth c T locs cells slots) (hx : p.tables.exec = Jvm.exec) (hnl : meth.locks = false) (hret : meth.sig.returnType = some .int) {pc : Nat} {Ls : Array Slot} {z : Int32} {rest : List Value} (hd : decode c.code pc = .ok (.ireturn, 1)) {Q : Option Value → Heap → List Loc → Prop} {k n : Nat}
    (hq : Q (some (.int z)) T.heap locs) (hc : cells ≤ k) (hs : slots ≤ n) : WP p e below (GG Q s k n) (T.setTop (mkF m pc Ls (.int z :: rest))) := by
  obtain ⟨fs, hr, hrun, hended, hW, hsame⟩ := X.leave (v := some (.int z)) (fun h => by rw [hret] at h; cases h) hnl
  exact ⟨_, _, retOut X hx hret rfl (Or.inl ⟨rfl, Or.inl rfl, z, rfl⟩) hd hr, hrun, hended, _, _, rfl, hq, ⟨_, rfl⟩, hW, hsame.mono hc hs⟩
theorem own_retN (X : Stand p l e R s m args below meth c T locs cells slots) (hx : p.tables.exec = Jvm.exec) (hnl : meth.locks = false) {t : FieldType} (hret : meth.sig.returnType = some t) (ht : t = .boolean ∨ t = .byte ∨ t = .char ∨ t = .short) {pc : Nat} {Ls : Array Slot} {z : Int32} {rest : List Value} (hd : decode c.code pc = .ok (.ireturn, 1)) {Q : Option Value → Heap → List Loc → Prop} {k n : Nat}
    (hq : Q (some (.int (nar t z))) T.heap locs) (hc : cells ≤ k) (hs : slots ≤ n) : WP p e below (GG Q s k n) (T.setTop (mkF m pc Ls (.int z :: rest))) := by
  obtain ⟨fs, hr, hrun, hended, hW, hsame⟩ := X.leave (v := some (.int (nar t z))) (fun h => by rw [hret] at h; cases h) hnl
  exact ⟨_, _, retN X hx hret ht hd hr, hrun, hended, _, _, rfl, hq, ⟨_, rfl⟩, hW, hsame.mono hc hs⟩
theorem own_retZ (X : Stand p l e R s m args below meth c T locs cells slots) (hx : p.tables.exec = Jvm.exec) (hnl : meth.locks = false) (hret : meth.sig.returnType = some .boolean) {pc : Nat} {Ls : Array Slot} {z : Int32} {rest : List Value} (hd : decode c.code pc = .ok (.ireturn, 1)) (hz : z = 0 ∨ z = 1) {Q : Option Value → Heap → List Loc → Prop} {k n : Nat}
    (hq : Q (some (.int z)) T.heap locs) (hc : cells ≤ k) (hs : slots ≤ n) : WP p e below (GG Q s k n) (T.setTop (mkF m pc Ls (.int z :: rest))) := by
  have hb : nar .boolean z = z := by rcases hz with rfl | rfl <;> rfl
  exact own_retN X hx hnl hret (Or.inl rfl) hd (by rw [hb]; exact hq) hc hs
theorem own_retC (X : Stand p l e R s m args below meth c T locs cells slots) (hx : p.tables.exec = Jvm.exec) (hnl : meth.locks = false) (hret : meth.sig.returnType = some .char) {pc : Nat} {Ls : Array Slot} {z : Int32} {rest : List Value} (hd : decode c.code pc = .ok (.ireturn, 1)) {Q : Option Value → Heap → List Loc → Prop} {k n : Nat}
    (hq : Q (some (.int z.toUInt32.toUInt16.toUInt32.toInt32)) T.heap locs) (hc : cells ≤ k) (hs : slots ≤ n) : WP p e below (GG Q s k n) (T.setTop (mkF m pc Ls (.int z :: rest))) :=
  own_retN X hx hnl hret (Or.inr (Or.inr (Or.inl rfl))) hd hq hc hs
theorem own_retB (X : Stand p l e R s m args below meth c T locs cells slots) (hx : p.tables.exec = Jvm.exec) (hnl : meth.locks = false) (hret : meth.sig.returnType = some .byte) {pc : Nat} {Ls : Array Slot} {z : Int32} {rest : List Value} (hd : decode c.code pc = .ok (.ireturn, 1)) {Q : Option Value → Heap → List Loc → Prop} {k n : Nat}
    (hq : Q (some (.int z.toInt8.toInt32)) T.heap locs) (hc : cells ≤ k) (hs : slots ≤ n) : WP p e below (GG Q s k n) (T.setTop (mkF m pc Ls (.int z :: rest))) :=
  own_retN X hx hnl hret (Or.inr (Or.inl rfl)) hd hq hc hs
theorem own_retJ (X : Stand p l e R s m args below meth c T locs cells slots) (hx : p.tables.exec = Jvm.exec) (hnl : meth.locks = false) (hret : meth.sig.returnType = some .long) {pc : Nat} {Ls : Array Slot} {z : Int64} {rest : List Value} (hd : decode c.code pc = .ok (.lreturn, 1)) {Q : Option Value → Heap → List Loc → Prop} {k n : Nat}
    (hq : Q (some (.long z)) T.heap locs) (hc : cells ≤ k) (hs : slots ≤ n) : WP p e below (GG Q s k n) (T.setTop (mkF m pc Ls (.long z :: rest))) := by
  obtain ⟨fs, hr, hrun, hended, hW, hsame⟩ := X.leave (v := some (.long z)) (fun h => by rw [hret] at h; cases h) hnl
  exact ⟨_, _, retOut X hx hret rfl (Or.inr (Or.inl ⟨rfl, rfl, z, rfl⟩)) hd hr, hrun, hended, _, _, rfl, hq, ⟨_, rfl⟩, hW, hsame.mono hc hs⟩
theorem own_retA (X : Stand p l e R s m args below meth c T locs cells slots) (hx : p.tables.exec = Jvm.exec) (hnl : meth.locks = false) {t : FieldType} (hret : meth.sig.returnType = some t) (ht : t.isReference = true) {pc : Nat} {Ls : Array Slot} {w : Value} (hw : w.isRef = true) {rest : List Value} (hd : decode c.code pc = .ok (.areturn, 1)) {Q : Option Value → Heap → List Loc → Prop} {k n : Nat}
    (hq : Q (some w) T.heap locs) (hc : cells ≤ k) (hs : slots ≤ n) : WP p e below (GG Q s k n) (T.setTop (mkF m pc Ls (w :: rest))) := by
  obtain ⟨fs, hr, hrun, hended, hW, hsame⟩ := X.leave (v := some w) (fun h => by rw [hret] at h; cases h) hnl
  have hn : narrow t w = w := by cases t <;> first | rfl | (simp [FieldType.isReference] at ht)
  exact ⟨_, _, retOut X hx hret hn (Or.inr (Or.inr (Or.inr (Or.inr ⟨rfl, ht, hw⟩)))) hd hr, hrun, hended, _, _, rfl, hq, ⟨_, rfl⟩, hW, hsame.mono hc hs⟩
theorem own_ret0 (X : Stand p l e R s m args below meth c T locs cells slots) (hx : p.tables.exec = Jvm.exec) (hnl : meth.locks = false) (hret : meth.sig.returnType = none) {pc : Nat} {Ls : Array Slot} (hd : decode c.code pc = .ok (.return_, 1)) {Q : Option Value → Heap → List Loc → Prop} {k n : Nat}
    (hq : Q none T.heap locs) (hc : cells ≤ k) (hs : slots ≤ n) : WP p e below (GG Q s k n) (T.setTop (mkF m pc Ls [])) := by
  obtain ⟨fs, hr, hrun, hended, hW, hsame⟩ := X.leave (v := none) (fun _ => rfl) hnl
  exact ⟨_, _, X.returnOut hx hret hd hr, hrun, hended, _, _, rfl, hq, ⟨_, rfl⟩, hW, hsame.mono hc hs⟩
end Own

theorem own_en {args : Array Value} {Z : State} {nm : String} {i : Int32} (ex : (Cond.exactly (Term.static "com/example/prefold/prefold/passes/Node$Operator" nm "Lcom/example/prefold/prefold/passes/Node$Operator;") "com/example/prefold/prefold/passes/Node$Operator").value args Z none Z [] = some true) (eq : (Cond.eq (Term.field (Term.static "com/example/prefold/prefold/passes/Node$Operator" nm "Lcom/example/prefold/prefold/passes/Node$Operator;") "java/lang/Enum" "ordinal" "I") (Term.int i)).value args Z none Z [] = some true)
    (wi : (Cond.initialized "com/example/prefold/prefold/passes/Node$Operator").before args Z = true) (wl : (Cond.laysStatic "com/example/prefold/prefold/passes/Node$Operator" nm "Lcom/example/prefold/prefold/passes/Node$Operator;").before args Z = true) : ∃ a : Addr, Sta Z Z.heap "com/example/prefold/prefold/passes/Node$Operator" nm "Lcom/example/prefold/prefold/passes/Node$Operator;" (.ref a) ∧ Exa Z Z.heap a "com/example/prefold/prefold/passes/Node$Operator" ∧ Fld Z Z.heap a "java/lang/Enum" "ordinal" "I" (.int i) := by
  obtain ⟨a, ea⟩ := exa_v ex
  refine ⟨a, Sta.start ea (Or.inr ⟨wi, wl⟩), Exa.start ea ex, ?_⟩
  have ef := fld_at (C := "java/lang/Enum") (n := "ordinal") (dd := "I") ea
  cases hv : Z.fieldOf? a "java/lang/Enum" "ordinal" "I" with
  | none => rw [hv] at ef; simp [Cond.value, ef] at eq
  | some v =>
    rw [hv] at ef
    have : v = .int i := by
      unfold Cond.value at eq
      rw [ef, show (Term.int i).eval args Z none [] Z = some (.int i) from rfl] at eq
      cases v <;> simp at eq
      rw [eq]
    subst this
    exact Fld.start hv
theorem d2_0 : decode jdk_37_method_2_code 0 = .ok (.aload_n 0, 1) := by decide +kernel
theorem d2_1 : decode jdk_37_method_2_code 1 = .ok (.getfield 7, 3) := by decide +kernel
theorem d2_4 : decode jdk_37_method_2_code 4 = .ok (.ireturn, 1) := by decide +kernel
theorem pn_0 : plainName "java/lang/Enum" = true := by first | (simp [plainName, overriddenIn]; done) | decide +kernel
theorem ef_rm2 (m : MethodId) (x0 : Addr) : entryFrame m #[(.ref x0)] 1 = mkF m 0 #[.val (.ref x0)] [] := by first | (simp [entryFrame, mkF, argsToLocals, Value.category]; done) | rfl
set_option maxRecDepth 65536 in
set_option maxHeartbeats 40000000 in
theorem rm2 (l : Launch) (Z : State) (a0 : Array Value) (hw : ∀ d ∈ tables_1, d.before a0 Z = true) (ws : List Jvm.Cond) (a1 : Addr) (u : Int32) (h0 : Heap) (n0 : Nat) (F : Fld Z h0 a1 "java/lang/Enum" "ordinal" "I" (.int u)) :
    MetFree l (⟨"java/lang/Enum", "ordinal", "()I"⟩ : MethodName) (head1 (Jvm.Cond.code (⟨"java/lang/Enum", "ordinal", "()I"⟩ : MethodName) jdk_37_method_2_code 1 (some .int) :: ws) ({ frames := 0, cells := 0, slots := 0, locals := 0 } : Room)) (fun a U => a = #[(.ref a1)] ∧ Z.Warmed39 U.vm ∧ U.heap = h0) (fun _ _ _ _ _ => True) (fun _ U o U' => ∃ v L, o = .returned v ∧ (PQ h0 n0 (.int u)) v U'.heap L ∧ FrameEnd U o U' L ({ frames := 0, cells := 0, slots := 0, locals := 0 } : Room).cells ({ frames := 0, cells := 0, slots := 0, locals := 0 } : Room).slots) := by
  refine MetFree.of_bodySF (plainFor_of_name pn_0) hisR ?_
  intro p e s m args below meth c s₁ Bd hml0 hP hK
  obtain ⟨rfl, hZ, hh⟩ := hP
  have hx := Bd.exec
  have hby := Bd.bytes
  have hml : c.maxLocals = 1 := hml0
  have hown : s.vm.findClass "java/lang/Enum" = some m.cls := findClass_of_methodNamed Bd.named
  have hnm := (name_of_methodNamed Bd.named Bd.method).1
  have X0 : Stand p l e ({ frames := 0, cells := 0, slots := 0, locals := 0 } : Room) s m #[(.ref a1)] below meth c s₁ [] 0 0 := Stand.of_body Bd
  have e0 : s₁.heap = h0 := by rw [← hh, Bd.state]; rfl
  have N0 := Fr.nil n0
  show WP p e below (GG (PQ h0 n0 (.int u)) s ({ frames := 0, cells := 0, slots := 0, locals := 0 } : Room).cells ({ frames := 0, cells := 0, slots := 0, locals := 0 } : Room).slots) (s₁.setTop (entryFrame m #[(.ref a1)] 1))
  rw [ef_rm2 m a1]
  show WP p e below _ (s₁.setTop (mkF m 0 #[.val (.ref a1)] []))
  refine own_go (fun t_ k => XS.aloadN X0.here hx rfl (hb hby d2_0) rfl rfl k) ?_
  show WP p e below _ (s₁.setTop (mkF m 1 #[.val (.ref a1)] [(.ref a1)]))
  obtain ⟨T1, X1, e1, st1⟩ := getF X0 hx hZ hown (host := "") (Or.inl (hw _ (List.mem_of_getElem? (i := 49) rfl))) Via.refl e0 F (g := (mkF m 1 #[.val (.ref a1)] [(.ref a1)])) rfl rfl (hb hby d2_1)
  refine own_go st1 ?_
  show WP p e below _ (T1.setTop (mkF m 4 #[.val (.ref a1)] [(.int u)]))
  exact own_retI X1 hx Bd.notSynchronized Bd.returns (hb hby d2_4) (show PQ h0 n0 (.int u) _ _ _ from ⟨rfl, N0, e1⟩) (by decide) (by decide)
theorem pd_0 : parseMethodDescriptor "()I" = some ⟨[], some .int⟩ := by decide +kernel
theorem d1_0 : decode prog_80_method_4_code 0 = .ok (.aload_n 0, 1) := by decide +kernel
theorem d1_1 : decode prog_80_method_4_code 1 = .ok (.invokevirtual 71, 3) := by decide +kernel
theorem d1_4 : decode prog_80_method_4_code 4 = .ok (.tableswitch 76 1 14 #[72, 76, 76, 76, 76, 76, 76, 76, 72, 72, 72, 72, 72, 72], 72) := by decide +kernel
theorem d1_80 : decode prog_80_method_4_code 80 = .ok (.iconst 0, 1) := by decide +kernel
theorem d1_81 : decode prog_80_method_4_code 81 = .ok (.ireturn, 1) := by decide +kernel
theorem pn_1 : plainName "com/example/prefold/prefold/passes/Node$Operator" = true := by first | (simp [plainName, overriddenIn]; done) | decide +kernel
theorem ef_rm1_0 (m : MethodId) (x0 : Addr) : entryFrame m #[(.ref x0)] 1 = mkF m 0 #[.val (.ref x0)] [] := by first | (simp [entryFrame, mkF, argsToLocals, Value.category]; done) | rfl
set_option maxRecDepth 65536 in
set_option maxHeartbeats 40000000 in
theorem rm1_0 (l : Launch) (Z : State) (a0 : Array Value) (hw : ∀ d ∈ tables_1, d.before a0 Z = true) (ws : List Jvm.Cond) (a1 : Addr) (h0 : Heap) (n0 : Nat) (E_a : Exa Z h0 a1 "com/example/prefold/prefold/passes/Node$Operator") (F : Fld Z h0 a1 "java/lang/Enum" "ordinal" "I" (.int (0 : Int32))) :
    MetFree l (⟨"com/example/prefold/prefold/passes/Node$Operator", "truth", "()Z"⟩ : MethodName) (head1 (Jvm.Cond.code (⟨"com/example/prefold/prefold/passes/Node$Operator", "truth", "()Z"⟩ : MethodName) prog_80_method_4_code 1 (some .boolean) :: ws) ({ frames := 1, cells := 0, slots := 0, locals := 12 } : Room)) (fun a U => a = #[(.ref a1)] ∧ Z.Warmed39 U.vm ∧ U.heap = h0) (fun _ _ _ _ _ => True) (fun _ U o U' => ∃ v L, o = .returned v ∧ (PQ h0 n0 (.int (0 : Int32))) v U'.heap L ∧ FrameEnd U o U' L ({ frames := 1, cells := 0, slots := 0, locals := 12 } : Room).cells ({ frames := 1, cells := 0, slots := 0, locals := 12 } : Room).slots) := by
  refine MetFree.of_bodySF (plainFor_of_name pn_1) hisR ?_
  intro p e s m args below meth c s₁ Bd hml0 hP hK
  obtain ⟨rfl, hZ, hh⟩ := hP
  have hx := Bd.exec
  have hby := Bd.bytes
  have hml : c.maxLocals = 1 := hml0
  have hown : s.vm.findClass "com/example/prefold/prefold/passes/Node$Operator" = some m.cls := findClass_of_methodNamed Bd.named
  have hnm := (name_of_methodNamed Bd.named Bd.method).1
  have X0 : Stand p l e ({ frames := 1, cells := 0, slots := 0, locals := 12 } : Room) s m #[(.ref a1)] below meth c s₁ [] 0 0 := Stand.of_body Bd
  have e0 : s₁.heap = h0 := by rw [← hh, Bd.state]; rfl
  have N0 := Fr.nil n0
  show WP p e below (GG (PQ h0 n0 (.int (0 : Int32))) s ({ frames := 1, cells := 0, slots := 0, locals := 12 } : Room).cells ({ frames := 1, cells := 0, slots := 0, locals := 12 } : Room).slots) (s₁.setTop (entryFrame m #[(.ref a1)] 1))
  rw [ef_rm1_0 m a1]
  show WP p e below _ (s₁.setTop (mkF m 0 #[.val (.ref a1)] []))
  refine own_go (fun t_ k => XS.aloadN X0.here hx rfl (hb hby d1_0) rfl rfl k) ?_
  show WP p e below _ (s₁.setTop (mkF m 1 #[.val (.ref a1)] [(.ref a1)]))
  obtain ⟨cq1, kq1, q1a, q1b, q1c⟩ := isOf (T := s₁) hZ e0 E_a
  obtain ⟨_, _, ⟨T1, L1, k1, n1⟩, -, X1, ⟨Lc1, hQ1, l1, y1, z1⟩, st1⟩ := X0.virtualBackUp hx (x := (⟨"com/example/prefold/prefold/passes/Node$Operator", "ordinal", "()I"⟩ : MethodName)) (y := (⟨"java/lang/Enum", "ordinal", "()I"⟩ : MethodName)) (owner := "java/lang/Enum") hown (mvT hZ (hw _ (List.mem_of_getElem? (i := 42) rfl))) (mvT hZ (hw _ (List.mem_of_getElem? (i := 43) rfl))) (mvT hZ (hw _ (List.mem_of_getElem? (i := 44) rfl))) (by decide) (mvT hZ (hw _ (List.mem_of_getElem? (i := 46) rfl))) (mvT hZ (hw _ (List.mem_of_getElem? (i := 45) rfl))) (backOf (W := 0) (rm2 l Z a0 hw [] a1 (0 : Int32) h0 n0 F) hZ (hw _ (List.mem_of_getElem? (i := 48) rfl)) (hw _ (List.mem_of_getElem? (i := 47) rfl)) (by decide) (by decide)) q1a q1c (g := (mkF m 1 #[.val (.ref a1)] [(.ref a1)])) rfl (by rw [hml]; rfl) (Steps.refl _) (argsL := []) (rest := []) (lenOf pd_0 rfl) rfl (by show 2 * 0 + _ ≤ _; exact Nat.le_of_eq rfl) (hb hby d1_1) (fun _ _ => ⟨rfl, e0, (by decide : 0 + 0 ≤ _), (by decide : 0 + 0 ≤ _)⟩)
  dsimp only [Pt.U, Pt.locs, Pt.cells, Pt.slots] at X1 l1 y1 z1 st1 hQ1
  subst l1 y1 z1
  obtain ⟨rfl, N1q, e1⟩ := hQ1
  have N1 := Fr.app N0 N1q
  replace X1 : Stand p l e ({ frames := 1, cells := 0, slots := 0, locals := 12 } : Room) s m _ below meth c T1 _ 0 0 := X1
  refine own_go (fun t_ k => st1.trans k) ?_
  show WP p e below _ (T1.setTop (mkF m 4 #[.val (.ref a1)] [(.int (0 : Int32))]))
  refine own_go (fun t_ k => XS.tswOut X1.here hx rfl (pc0 := 4) (pc' := 80) rfl (hb hby d1_4) rfl (by decide) (by decide) (by decide) k) ?_
  show WP p e below _ (T1.setTop (mkF m 80 #[.val (.ref a1)] []))
  refine own_go (fun t_ k => XS.iconst X1.here hx rfl (hb hby d1_80) k) ?_
  show WP p e below _ (T1.setTop (mkF m 81 #[.val (.ref a1)] [(.int (0 : Int32))]))
  exact own_retZ X1 hx Bd.notSynchronized Bd.returns (hb hby d1_81) (by decide) (show PQ h0 n0 (.int (0 : Int32)) _ _ _ from ⟨rfl, N1, e1⟩) (by decide) (by decide)
theorem d1_76 : decode prog_80_method_4_code 76 = .ok (.iconst 1, 1) := by decide +kernel
theorem d1_77 : decode prog_80_method_4_code 77 = .ok (.goto 4, 3) := by decide +kernel
theorem ef_rm1_1 (m : MethodId) (x0 : Addr) : entryFrame m #[(.ref x0)] 1 = mkF m 0 #[.val (.ref x0)] [] := by first | (simp [entryFrame, mkF, argsToLocals, Value.category]; done) | rfl
set_option maxRecDepth 65536 in
set_option maxHeartbeats 40000000 in
theorem rm1_1 (l : Launch) (Z : State) (a0 : Array Value) (hw : ∀ d ∈ tables_1, d.before a0 Z = true) (ws : List Jvm.Cond) (a1 : Addr) (h0 : Heap) (n0 : Nat) (E_a : Exa Z h0 a1 "com/example/prefold/prefold/passes/Node$Operator") (F : Fld Z h0 a1 "java/lang/Enum" "ordinal" "I" (.int (1 : Int32))) :
    MetFree l (⟨"com/example/prefold/prefold/passes/Node$Operator", "truth", "()Z"⟩ : MethodName) (head1 (Jvm.Cond.code (⟨"com/example/prefold/prefold/passes/Node$Operator", "truth", "()Z"⟩ : MethodName) prog_80_method_4_code 1 (some .boolean) :: ws) ({ frames := 1, cells := 0, slots := 0, locals := 12 } : Room)) (fun a U => a = #[(.ref a1)] ∧ Z.Warmed39 U.vm ∧ U.heap = h0) (fun _ _ _ _ _ => True) (fun _ U o U' => ∃ v L, o = .returned v ∧ (PQ h0 n0 (.int (1 : Int32))) v U'.heap L ∧ FrameEnd U o U' L ({ frames := 1, cells := 0, slots := 0, locals := 12 } : Room).cells ({ frames := 1, cells := 0, slots := 0, locals := 12 } : Room).slots) := by
  refine MetFree.of_bodySF (plainFor_of_name pn_1) hisR ?_
  intro p e s m args below meth c s₁ Bd hml0 hP hK
  obtain ⟨rfl, hZ, hh⟩ := hP
  have hx := Bd.exec
  have hby := Bd.bytes
  have hml : c.maxLocals = 1 := hml0
  have hown : s.vm.findClass "com/example/prefold/prefold/passes/Node$Operator" = some m.cls := findClass_of_methodNamed Bd.named
  have hnm := (name_of_methodNamed Bd.named Bd.method).1
  have X0 : Stand p l e ({ frames := 1, cells := 0, slots := 0, locals := 12 } : Room) s m #[(.ref a1)] below meth c s₁ [] 0 0 := Stand.of_body Bd
  have e0 : s₁.heap = h0 := by rw [← hh, Bd.state]; rfl
  have N0 := Fr.nil n0
  show WP p e below (GG (PQ h0 n0 (.int (1 : Int32))) s ({ frames := 1, cells := 0, slots := 0, locals := 12 } : Room).cells ({ frames := 1, cells := 0, slots := 0, locals := 12 } : Room).slots) (s₁.setTop (entryFrame m #[(.ref a1)] 1))
  rw [ef_rm1_1 m a1]
  show WP p e below _ (s₁.setTop (mkF m 0 #[.val (.ref a1)] []))
  refine own_go (fun t_ k => XS.aloadN X0.here hx rfl (hb hby d1_0) rfl rfl k) ?_
  show WP p e below _ (s₁.setTop (mkF m 1 #[.val (.ref a1)] [(.ref a1)]))
  obtain ⟨cq1, kq1, q1a, q1b, q1c⟩ := isOf (T := s₁) hZ e0 E_a
  obtain ⟨_, _, ⟨T1, L1, k1, n1⟩, -, X1, ⟨Lc1, hQ1, l1, y1, z1⟩, st1⟩ := X0.virtualBackUp hx (x := (⟨"com/example/prefold/prefold/passes/Node$Operator", "ordinal", "()I"⟩ : MethodName)) (y := (⟨"java/lang/Enum", "ordinal", "()I"⟩ : MethodName)) (owner := "java/lang/Enum") hown (mvT hZ (hw _ (List.mem_of_getElem? (i := 42) rfl))) (mvT hZ (hw _ (List.mem_of_getElem? (i := 43) rfl))) (mvT hZ (hw _ (List.mem_of_getElem? (i := 44) rfl))) (by decide) (mvT hZ (hw _ (List.mem_of_getElem? (i := 46) rfl))) (mvT hZ (hw _ (List.mem_of_getElem? (i := 45) rfl))) (backOf (W := 0) (rm2 l Z a0 hw [] a1 (1 : Int32) h0 n0 F) hZ (hw _ (List.mem_of_getElem? (i := 48) rfl)) (hw _ (List.mem_of_getElem? (i := 47) rfl)) (by decide) (by decide)) q1a q1c (g := (mkF m 1 #[.val (.ref a1)] [(.ref a1)])) rfl (by rw [hml]; rfl) (Steps.refl _) (argsL := []) (rest := []) (lenOf pd_0 rfl) rfl (by show 2 * 0 + _ ≤ _; exact Nat.le_of_eq rfl) (hb hby d1_1) (fun _ _ => ⟨rfl, e0, (by decide : 0 + 0 ≤ _), (by decide : 0 + 0 ≤ _)⟩)
  dsimp only [Pt.U, Pt.locs, Pt.cells, Pt.slots] at X1 l1 y1 z1 st1 hQ1
  subst l1 y1 z1
  obtain ⟨rfl, N1q, e1⟩ := hQ1
  have N1 := Fr.app N0 N1q
  replace X1 : Stand p l e ({ frames := 1, cells := 0, slots := 0, locals := 12 } : Room) s m _ below meth c T1 _ 0 0 := X1
  refine own_go (fun t_ k => st1.trans k) ?_
  show WP p e below _ (T1.setTop (mkF m 4 #[.val (.ref a1)] [(.int (1 : Int32))]))
  refine own_go (fun t_ k => XS.tswIn X1.here hx rfl (pc0 := 4) (pc' := 76) (o := 72) rfl (hb hby d1_4) rfl (by decide) rfl (by decide) (by decide) k) ?_
  show WP p e below _ (T1.setTop (mkF m 76 #[.val (.ref a1)] []))
  refine own_go (fun t_ k => XS.iconst X1.here hx rfl (hb hby d1_76) k) ?_
  show WP p e below _ (T1.setTop (mkF m 77 #[.val (.ref a1)] [(.int (1 : Int32))]))
  refine own_go (fun t_ k => XS.goto X1.here hx rfl (pc0 := 77) (pc' := 81) rfl (hb hby d1_77) (by decide) (by decide) k) ?_
  show WP p e below _ (T1.setTop (mkF m 81 #[.val (.ref a1)] [(.int (1 : Int32))]))
  exact own_retZ X1 hx Bd.notSynchronized Bd.returns (hb hby d1_81) (by decide) (show PQ h0 n0 (.int (1 : Int32)) _ _ _ from ⟨rfl, N1, e1⟩) (by decide) (by decide)
theorem ef_rm1_2 (m : MethodId) (x0 : Addr) : entryFrame m #[(.ref x0)] 1 = mkF m 0 #[.val (.ref x0)] [] := by first | (simp [entryFrame, mkF, argsToLocals, Value.category]; done) | rfl
set_option maxRecDepth 65536 in
set_option maxHeartbeats 40000000 in
theorem rm1_2 (l : Launch) (Z : State) (a0 : Array Value) (hw : ∀ d ∈ tables_1, d.before a0 Z = true) (ws : List Jvm.Cond) (a1 : Addr) (h0 : Heap) (n0 : Nat) (E_a : Exa Z h0 a1 "com/example/prefold/prefold/passes/Node$Operator") (F : Fld Z h0 a1 "java/lang/Enum" "ordinal" "I" (.int (2 : Int32))) :
    MetFree l (⟨"com/example/prefold/prefold/passes/Node$Operator", "truth", "()Z"⟩ : MethodName) (head1 (Jvm.Cond.code (⟨"com/example/prefold/prefold/passes/Node$Operator", "truth", "()Z"⟩ : MethodName) prog_80_method_4_code 1 (some .boolean) :: ws) ({ frames := 1, cells := 0, slots := 0, locals := 12 } : Room)) (fun a U => a = #[(.ref a1)] ∧ Z.Warmed39 U.vm ∧ U.heap = h0) (fun _ _ _ _ _ => True) (fun _ U o U' => ∃ v L, o = .returned v ∧ (PQ h0 n0 (.int (0 : Int32))) v U'.heap L ∧ FrameEnd U o U' L ({ frames := 1, cells := 0, slots := 0, locals := 12 } : Room).cells ({ frames := 1, cells := 0, slots := 0, locals := 12 } : Room).slots) := by
  refine MetFree.of_bodySF (plainFor_of_name pn_1) hisR ?_
  intro p e s m args below meth c s₁ Bd hml0 hP hK
  obtain ⟨rfl, hZ, hh⟩ := hP
  have hx := Bd.exec
  have hby := Bd.bytes
  have hml : c.maxLocals = 1 := hml0
  have hown : s.vm.findClass "com/example/prefold/prefold/passes/Node$Operator" = some m.cls := findClass_of_methodNamed Bd.named
  have hnm := (name_of_methodNamed Bd.named Bd.method).1
  have X0 : Stand p l e ({ frames := 1, cells := 0, slots := 0, locals := 12 } : Room) s m #[(.ref a1)] below meth c s₁ [] 0 0 := Stand.of_body Bd
  have e0 : s₁.heap = h0 := by rw [← hh, Bd.state]; rfl
  have N0 := Fr.nil n0
  show WP p e below (GG (PQ h0 n0 (.int (0 : Int32))) s ({ frames := 1, cells := 0, slots := 0, locals := 12 } : Room).cells ({ frames := 1, cells := 0, slots := 0, locals := 12 } : Room).slots) (s₁.setTop (entryFrame m #[(.ref a1)] 1))
  rw [ef_rm1_2 m a1]
  show WP p e below _ (s₁.setTop (mkF m 0 #[.val (.ref a1)] []))
  refine own_go (fun t_ k => XS.aloadN X0.here hx rfl (hb hby d1_0) rfl rfl k) ?_
  show WP p e below _ (s₁.setTop (mkF m 1 #[.val (.ref a1)] [(.ref a1)]))
  obtain ⟨cq1, kq1, q1a, q1b, q1c⟩ := isOf (T := s₁) hZ e0 E_a
  obtain ⟨_, _, ⟨T1, L1, k1, n1⟩, -, X1, ⟨Lc1, hQ1, l1, y1, z1⟩, st1⟩ := X0.virtualBackUp hx (x := (⟨"com/example/prefold/prefold/passes/Node$Operator", "ordinal", "()I"⟩ : MethodName)) (y := (⟨"java/lang/Enum", "ordinal", "()I"⟩ : MethodName)) (owner := "java/lang/Enum") hown (mvT hZ (hw _ (List.mem_of_getElem? (i := 42) rfl))) (mvT hZ (hw _ (List.mem_of_getElem? (i := 43) rfl))) (mvT hZ (hw _ (List.mem_of_getElem? (i := 44) rfl))) (by decide) (mvT hZ (hw _ (List.mem_of_getElem? (i := 46) rfl))) (mvT hZ (hw _ (List.mem_of_getElem? (i := 45) rfl))) (backOf (W := 0) (rm2 l Z a0 hw [] a1 (2 : Int32) h0 n0 F) hZ (hw _ (List.mem_of_getElem? (i := 48) rfl)) (hw _ (List.mem_of_getElem? (i := 47) rfl)) (by decide) (by decide)) q1a q1c (g := (mkF m 1 #[.val (.ref a1)] [(.ref a1)])) rfl (by rw [hml]; rfl) (Steps.refl _) (argsL := []) (rest := []) (lenOf pd_0 rfl) rfl (by show 2 * 0 + _ ≤ _; exact Nat.le_of_eq rfl) (hb hby d1_1) (fun _ _ => ⟨rfl, e0, (by decide : 0 + 0 ≤ _), (by decide : 0 + 0 ≤ _)⟩)
  dsimp only [Pt.U, Pt.locs, Pt.cells, Pt.slots] at X1 l1 y1 z1 st1 hQ1
  subst l1 y1 z1
  obtain ⟨rfl, N1q, e1⟩ := hQ1
  have N1 := Fr.app N0 N1q
  replace X1 : Stand p l e ({ frames := 1, cells := 0, slots := 0, locals := 12 } : Room) s m _ below meth c T1 _ 0 0 := X1
  refine own_go (fun t_ k => st1.trans k) ?_
  show WP p e below _ (T1.setTop (mkF m 4 #[.val (.ref a1)] [(.int (2 : Int32))]))
  refine own_go (fun t_ k => XS.tswIn X1.here hx rfl (pc0 := 4) (pc' := 80) (o := 76) rfl (hb hby d1_4) rfl (by decide) rfl (by decide) (by decide) k) ?_
  show WP p e below _ (T1.setTop (mkF m 80 #[.val (.ref a1)] []))
  refine own_go (fun t_ k => XS.iconst X1.here hx rfl (hb hby d1_80) k) ?_
  show WP p e below _ (T1.setTop (mkF m 81 #[.val (.ref a1)] [(.int (0 : Int32))]))
  exact own_retZ X1 hx Bd.notSynchronized Bd.returns (hb hby d1_81) (by decide) (show PQ h0 n0 (.int (0 : Int32)) _ _ _ from ⟨rfl, N1, e1⟩) (by decide) (by decide)
theorem ef_rm1_3 (m : MethodId) (x0 : Addr) : entryFrame m #[(.ref x0)] 1 = mkF m 0 #[.val (.ref x0)] [] := by first | (simp [entryFrame, mkF, argsToLocals, Value.category]; done) | rfl
set_option maxRecDepth 65536 in
set_option maxHeartbeats 40000000 in
theorem rm1_3 (l : Launch) (Z : State) (a0 : Array Value) (hw : ∀ d ∈ tables_1, d.before a0 Z = true) (ws : List Jvm.Cond) (a1 : Addr) (h0 : Heap) (n0 : Nat) (E_a : Exa Z h0 a1 "com/example/prefold/prefold/passes/Node$Operator") (F : Fld Z h0 a1 "java/lang/Enum" "ordinal" "I" (.int (3 : Int32))) :
    MetFree l (⟨"com/example/prefold/prefold/passes/Node$Operator", "truth", "()Z"⟩ : MethodName) (head1 (Jvm.Cond.code (⟨"com/example/prefold/prefold/passes/Node$Operator", "truth", "()Z"⟩ : MethodName) prog_80_method_4_code 1 (some .boolean) :: ws) ({ frames := 1, cells := 0, slots := 0, locals := 12 } : Room)) (fun a U => a = #[(.ref a1)] ∧ Z.Warmed39 U.vm ∧ U.heap = h0) (fun _ _ _ _ _ => True) (fun _ U o U' => ∃ v L, o = .returned v ∧ (PQ h0 n0 (.int (0 : Int32))) v U'.heap L ∧ FrameEnd U o U' L ({ frames := 1, cells := 0, slots := 0, locals := 12 } : Room).cells ({ frames := 1, cells := 0, slots := 0, locals := 12 } : Room).slots) := by
  refine MetFree.of_bodySF (plainFor_of_name pn_1) hisR ?_
  intro p e s m args below meth c s₁ Bd hml0 hP hK
  obtain ⟨rfl, hZ, hh⟩ := hP
  have hx := Bd.exec
  have hby := Bd.bytes
  have hml : c.maxLocals = 1 := hml0
  have hown : s.vm.findClass "com/example/prefold/prefold/passes/Node$Operator" = some m.cls := findClass_of_methodNamed Bd.named
  have hnm := (name_of_methodNamed Bd.named Bd.method).1
  have X0 : Stand p l e ({ frames := 1, cells := 0, slots := 0, locals := 12 } : Room) s m #[(.ref a1)] below meth c s₁ [] 0 0 := Stand.of_body Bd
  have e0 : s₁.heap = h0 := by rw [← hh, Bd.state]; rfl
  have N0 := Fr.nil n0
  show WP p e below (GG (PQ h0 n0 (.int (0 : Int32))) s ({ frames := 1, cells := 0, slots := 0, locals := 12 } : Room).cells ({ frames := 1, cells := 0, slots := 0, locals := 12 } : Room).slots) (s₁.setTop (entryFrame m #[(.ref a1)] 1))
  rw [ef_rm1_3 m a1]
  show WP p e below _ (s₁.setTop (mkF m 0 #[.val (.ref a1)] []))
  refine own_go (fun t_ k => XS.aloadN X0.here hx rfl (hb hby d1_0) rfl rfl k) ?_
  show WP p e below _ (s₁.setTop (mkF m 1 #[.val (.ref a1)] [(.ref a1)]))
  obtain ⟨cq1, kq1, q1a, q1b, q1c⟩ := isOf (T := s₁) hZ e0 E_a
  obtain ⟨_, _, ⟨T1, L1, k1, n1⟩, -, X1, ⟨Lc1, hQ1, l1, y1, z1⟩, st1⟩ := X0.virtualBackUp hx (x := (⟨"com/example/prefold/prefold/passes/Node$Operator", "ordinal", "()I"⟩ : MethodName)) (y := (⟨"java/lang/Enum", "ordinal", "()I"⟩ : MethodName)) (owner := "java/lang/Enum") hown (mvT hZ (hw _ (List.mem_of_getElem? (i := 42) rfl))) (mvT hZ (hw _ (List.mem_of_getElem? (i := 43) rfl))) (mvT hZ (hw _ (List.mem_of_getElem? (i := 44) rfl))) (by decide) (mvT hZ (hw _ (List.mem_of_getElem? (i := 46) rfl))) (mvT hZ (hw _ (List.mem_of_getElem? (i := 45) rfl))) (backOf (W := 0) (rm2 l Z a0 hw [] a1 (3 : Int32) h0 n0 F) hZ (hw _ (List.mem_of_getElem? (i := 48) rfl)) (hw _ (List.mem_of_getElem? (i := 47) rfl)) (by decide) (by decide)) q1a q1c (g := (mkF m 1 #[.val (.ref a1)] [(.ref a1)])) rfl (by rw [hml]; rfl) (Steps.refl _) (argsL := []) (rest := []) (lenOf pd_0 rfl) rfl (by show 2 * 0 + _ ≤ _; exact Nat.le_of_eq rfl) (hb hby d1_1) (fun _ _ => ⟨rfl, e0, (by decide : 0 + 0 ≤ _), (by decide : 0 + 0 ≤ _)⟩)
  dsimp only [Pt.U, Pt.locs, Pt.cells, Pt.slots] at X1 l1 y1 z1 st1 hQ1
  subst l1 y1 z1
  obtain ⟨rfl, N1q, e1⟩ := hQ1
  have N1 := Fr.app N0 N1q
  replace X1 : Stand p l e ({ frames := 1, cells := 0, slots := 0, locals := 12 } : Room) s m _ below meth c T1 _ 0 0 := X1
  refine own_go (fun t_ k => st1.trans k) ?_
  show WP p e below _ (T1.setTop (mkF m 4 #[.val (.ref a1)] [(.int (3 : Int32))]))
  refine own_go (fun t_ k => XS.tswIn X1.here hx rfl (pc0 := 4) (pc' := 80) (o := 76) rfl (hb hby d1_4) rfl (by decide) rfl (by decide) (by decide) k) ?_
  show WP p e below _ (T1.setTop (mkF m 80 #[.val (.ref a1)] []))
  refine own_go (fun t_ k => XS.iconst X1.here hx rfl (hb hby d1_80) k) ?_
  show WP p e below _ (T1.setTop (mkF m 81 #[.val (.ref a1)] [(.int (0 : Int32))]))
  exact own_retZ X1 hx Bd.notSynchronized Bd.returns (hb hby d1_81) (by decide) (show PQ h0 n0 (.int (0 : Int32)) _ _ _ from ⟨rfl, N1, e1⟩) (by decide) (by decide)
theorem ef_rm1_4 (m : MethodId) (x0 : Addr) : entryFrame m #[(.ref x0)] 1 = mkF m 0 #[.val (.ref x0)] [] := by first | (simp [entryFrame, mkF, argsToLocals, Value.category]; done) | rfl
set_option maxRecDepth 65536 in
set_option maxHeartbeats 40000000 in
theorem rm1_4 (l : Launch) (Z : State) (a0 : Array Value) (hw : ∀ d ∈ tables_1, d.before a0 Z = true) (ws : List Jvm.Cond) (a1 : Addr) (h0 : Heap) (n0 : Nat) (E_a : Exa Z h0 a1 "com/example/prefold/prefold/passes/Node$Operator") (F : Fld Z h0 a1 "java/lang/Enum" "ordinal" "I" (.int (4 : Int32))) :
    MetFree l (⟨"com/example/prefold/prefold/passes/Node$Operator", "truth", "()Z"⟩ : MethodName) (head1 (Jvm.Cond.code (⟨"com/example/prefold/prefold/passes/Node$Operator", "truth", "()Z"⟩ : MethodName) prog_80_method_4_code 1 (some .boolean) :: ws) ({ frames := 1, cells := 0, slots := 0, locals := 12 } : Room)) (fun a U => a = #[(.ref a1)] ∧ Z.Warmed39 U.vm ∧ U.heap = h0) (fun _ _ _ _ _ => True) (fun _ U o U' => ∃ v L, o = .returned v ∧ (PQ h0 n0 (.int (0 : Int32))) v U'.heap L ∧ FrameEnd U o U' L ({ frames := 1, cells := 0, slots := 0, locals := 12 } : Room).cells ({ frames := 1, cells := 0, slots := 0, locals := 12 } : Room).slots) := by
  refine MetFree.of_bodySF (plainFor_of_name pn_1) hisR ?_
  intro p e s m args below meth c s₁ Bd hml0 hP hK
  obtain ⟨rfl, hZ, hh⟩ := hP
  have hx := Bd.exec
  have hby := Bd.bytes
  have hml : c.maxLocals = 1 := hml0
  have hown : s.vm.findClass "com/example/prefold/prefold/passes/Node$Operator" = some m.cls := findClass_of_methodNamed Bd.named
  have hnm := (name_of_methodNamed Bd.named Bd.method).1
  have X0 : Stand p l e ({ frames := 1, cells := 0, slots := 0, locals := 12 } : Room) s m #[(.ref a1)] below meth c s₁ [] 0 0 := Stand.of_body Bd
  have e0 : s₁.heap = h0 := by rw [← hh, Bd.state]; rfl
  have N0 := Fr.nil n0
  show WP p e below (GG (PQ h0 n0 (.int (0 : Int32))) s ({ frames := 1, cells := 0, slots := 0, locals := 12 } : Room).cells ({ frames := 1, cells := 0, slots := 0, locals := 12 } : Room).slots) (s₁.setTop (entryFrame m #[(.ref a1)] 1))
  rw [ef_rm1_4 m a1]
  show WP p e below _ (s₁.setTop (mkF m 0 #[.val (.ref a1)] []))
  refine own_go (fun t_ k => XS.aloadN X0.here hx rfl (hb hby d1_0) rfl rfl k) ?_
  show WP p e below _ (s₁.setTop (mkF m 1 #[.val (.ref a1)] [(.ref a1)]))
  obtain ⟨cq1, kq1, q1a, q1b, q1c⟩ := isOf (T := s₁) hZ e0 E_a
  obtain ⟨_, _, ⟨T1, L1, k1, n1⟩, -, X1, ⟨Lc1, hQ1, l1, y1, z1⟩, st1⟩ := X0.virtualBackUp hx (x := (⟨"com/example/prefold/prefold/passes/Node$Operator", "ordinal", "()I"⟩ : MethodName)) (y := (⟨"java/lang/Enum", "ordinal", "()I"⟩ : MethodName)) (owner := "java/lang/Enum") hown (mvT hZ (hw _ (List.mem_of_getElem? (i := 42) rfl))) (mvT hZ (hw _ (List.mem_of_getElem? (i := 43) rfl))) (mvT hZ (hw _ (List.mem_of_getElem? (i := 44) rfl))) (by decide) (mvT hZ (hw _ (List.mem_of_getElem? (i := 46) rfl))) (mvT hZ (hw _ (List.mem_of_getElem? (i := 45) rfl))) (backOf (W := 0) (rm2 l Z a0 hw [] a1 (4 : Int32) h0 n0 F) hZ (hw _ (List.mem_of_getElem? (i := 48) rfl)) (hw _ (List.mem_of_getElem? (i := 47) rfl)) (by decide) (by decide)) q1a q1c (g := (mkF m 1 #[.val (.ref a1)] [(.ref a1)])) rfl (by rw [hml]; rfl) (Steps.refl _) (argsL := []) (rest := []) (lenOf pd_0 rfl) rfl (by show 2 * 0 + _ ≤ _; exact Nat.le_of_eq rfl) (hb hby d1_1) (fun _ _ => ⟨rfl, e0, (by decide : 0 + 0 ≤ _), (by decide : 0 + 0 ≤ _)⟩)
  dsimp only [Pt.U, Pt.locs, Pt.cells, Pt.slots] at X1 l1 y1 z1 st1 hQ1
  subst l1 y1 z1
  obtain ⟨rfl, N1q, e1⟩ := hQ1
  have N1 := Fr.app N0 N1q
  replace X1 : Stand p l e ({ frames := 1, cells := 0, slots := 0, locals := 12 } : Room) s m _ below meth c T1 _ 0 0 := X1
  refine own_go (fun t_ k => st1.trans k) ?_
  show WP p e below _ (T1.setTop (mkF m 4 #[.val (.ref a1)] [(.int (4 : Int32))]))
  refine own_go (fun t_ k => XS.tswIn X1.here hx rfl (pc0 := 4) (pc' := 80) (o := 76) rfl (hb hby d1_4) rfl (by decide) rfl (by decide) (by decide) k) ?_
  show WP p e below _ (T1.setTop (mkF m 80 #[.val (.ref a1)] []))
  refine own_go (fun t_ k => XS.iconst X1.here hx rfl (hb hby d1_80) k) ?_
  show WP p e below _ (T1.setTop (mkF m 81 #[.val (.ref a1)] [(.int (0 : Int32))]))
  exact own_retZ X1 hx Bd.notSynchronized Bd.returns (hb hby d1_81) (by decide) (show PQ h0 n0 (.int (0 : Int32)) _ _ _ from ⟨rfl, N1, e1⟩) (by decide) (by decide)
theorem ef_rm1_5 (m : MethodId) (x0 : Addr) : entryFrame m #[(.ref x0)] 1 = mkF m 0 #[.val (.ref x0)] [] := by first | (simp [entryFrame, mkF, argsToLocals, Value.category]; done) | rfl
set_option maxRecDepth 65536 in
set_option maxHeartbeats 40000000 in
theorem rm1_5 (l : Launch) (Z : State) (a0 : Array Value) (hw : ∀ d ∈ tables_1, d.before a0 Z = true) (ws : List Jvm.Cond) (a1 : Addr) (h0 : Heap) (n0 : Nat) (E_a : Exa Z h0 a1 "com/example/prefold/prefold/passes/Node$Operator") (F : Fld Z h0 a1 "java/lang/Enum" "ordinal" "I" (.int (5 : Int32))) :
    MetFree l (⟨"com/example/prefold/prefold/passes/Node$Operator", "truth", "()Z"⟩ : MethodName) (head1 (Jvm.Cond.code (⟨"com/example/prefold/prefold/passes/Node$Operator", "truth", "()Z"⟩ : MethodName) prog_80_method_4_code 1 (some .boolean) :: ws) ({ frames := 1, cells := 0, slots := 0, locals := 12 } : Room)) (fun a U => a = #[(.ref a1)] ∧ Z.Warmed39 U.vm ∧ U.heap = h0) (fun _ _ _ _ _ => True) (fun _ U o U' => ∃ v L, o = .returned v ∧ (PQ h0 n0 (.int (0 : Int32))) v U'.heap L ∧ FrameEnd U o U' L ({ frames := 1, cells := 0, slots := 0, locals := 12 } : Room).cells ({ frames := 1, cells := 0, slots := 0, locals := 12 } : Room).slots) := by
  refine MetFree.of_bodySF (plainFor_of_name pn_1) hisR ?_
  intro p e s m args below meth c s₁ Bd hml0 hP hK
  obtain ⟨rfl, hZ, hh⟩ := hP
  have hx := Bd.exec
  have hby := Bd.bytes
  have hml : c.maxLocals = 1 := hml0
  have hown : s.vm.findClass "com/example/prefold/prefold/passes/Node$Operator" = some m.cls := findClass_of_methodNamed Bd.named
  have hnm := (name_of_methodNamed Bd.named Bd.method).1
  have X0 : Stand p l e ({ frames := 1, cells := 0, slots := 0, locals := 12 } : Room) s m #[(.ref a1)] below meth c s₁ [] 0 0 := Stand.of_body Bd
  have e0 : s₁.heap = h0 := by rw [← hh, Bd.state]; rfl
  have N0 := Fr.nil n0
  show WP p e below (GG (PQ h0 n0 (.int (0 : Int32))) s ({ frames := 1, cells := 0, slots := 0, locals := 12 } : Room).cells ({ frames := 1, cells := 0, slots := 0, locals := 12 } : Room).slots) (s₁.setTop (entryFrame m #[(.ref a1)] 1))
  rw [ef_rm1_5 m a1]
  show WP p e below _ (s₁.setTop (mkF m 0 #[.val (.ref a1)] []))
  refine own_go (fun t_ k => XS.aloadN X0.here hx rfl (hb hby d1_0) rfl rfl k) ?_
  show WP p e below _ (s₁.setTop (mkF m 1 #[.val (.ref a1)] [(.ref a1)]))
  obtain ⟨cq1, kq1, q1a, q1b, q1c⟩ := isOf (T := s₁) hZ e0 E_a
  obtain ⟨_, _, ⟨T1, L1, k1, n1⟩, -, X1, ⟨Lc1, hQ1, l1, y1, z1⟩, st1⟩ := X0.virtualBackUp hx (x := (⟨"com/example/prefold/prefold/passes/Node$Operator", "ordinal", "()I"⟩ : MethodName)) (y := (⟨"java/lang/Enum", "ordinal", "()I"⟩ : MethodName)) (owner := "java/lang/Enum") hown (mvT hZ (hw _ (List.mem_of_getElem? (i := 42) rfl))) (mvT hZ (hw _ (List.mem_of_getElem? (i := 43) rfl))) (mvT hZ (hw _ (List.mem_of_getElem? (i := 44) rfl))) (by decide) (mvT hZ (hw _ (List.mem_of_getElem? (i := 46) rfl))) (mvT hZ (hw _ (List.mem_of_getElem? (i := 45) rfl))) (backOf (W := 0) (rm2 l Z a0 hw [] a1 (5 : Int32) h0 n0 F) hZ (hw _ (List.mem_of_getElem? (i := 48) rfl)) (hw _ (List.mem_of_getElem? (i := 47) rfl)) (by decide) (by decide)) q1a q1c (g := (mkF m 1 #[.val (.ref a1)] [(.ref a1)])) rfl (by rw [hml]; rfl) (Steps.refl _) (argsL := []) (rest := []) (lenOf pd_0 rfl) rfl (by show 2 * 0 + _ ≤ _; exact Nat.le_of_eq rfl) (hb hby d1_1) (fun _ _ => ⟨rfl, e0, (by decide : 0 + 0 ≤ _), (by decide : 0 + 0 ≤ _)⟩)
  dsimp only [Pt.U, Pt.locs, Pt.cells, Pt.slots] at X1 l1 y1 z1 st1 hQ1
  subst l1 y1 z1
  obtain ⟨rfl, N1q, e1⟩ := hQ1
  have N1 := Fr.app N0 N1q
  replace X1 : Stand p l e ({ frames := 1, cells := 0, slots := 0, locals := 12 } : Room) s m _ below meth c T1 _ 0 0 := X1
  refine own_go (fun t_ k => st1.trans k) ?_
  show WP p e below _ (T1.setTop (mkF m 4 #[.val (.ref a1)] [(.int (5 : Int32))]))
  refine own_go (fun t_ k => XS.tswIn X1.here hx rfl (pc0 := 4) (pc' := 80) (o := 76) rfl (hb hby d1_4) rfl (by decide) rfl (by decide) (by decide) k) ?_
  show WP p e below _ (T1.setTop (mkF m 80 #[.val (.ref a1)] []))
  refine own_go (fun t_ k => XS.iconst X1.here hx rfl (hb hby d1_80) k) ?_
  show WP p e below _ (T1.setTop (mkF m 81 #[.val (.ref a1)] [(.int (0 : Int32))]))
  exact own_retZ X1 hx Bd.notSynchronized Bd.returns (hb hby d1_81) (by decide) (show PQ h0 n0 (.int (0 : Int32)) _ _ _ from ⟨rfl, N1, e1⟩) (by decide) (by decide)
theorem ef_rm1_6 (m : MethodId) (x0 : Addr) : entryFrame m #[(.ref x0)] 1 = mkF m 0 #[.val (.ref x0)] [] := by first | (simp [entryFrame, mkF, argsToLocals, Value.category]; done) | rfl
set_option maxRecDepth 65536 in
set_option maxHeartbeats 40000000 in
theorem rm1_6 (l : Launch) (Z : State) (a0 : Array Value) (hw : ∀ d ∈ tables_1, d.before a0 Z = true) (ws : List Jvm.Cond) (a1 : Addr) (h0 : Heap) (n0 : Nat) (E_a : Exa Z h0 a1 "com/example/prefold/prefold/passes/Node$Operator") (F : Fld Z h0 a1 "java/lang/Enum" "ordinal" "I" (.int (6 : Int32))) :
    MetFree l (⟨"com/example/prefold/prefold/passes/Node$Operator", "truth", "()Z"⟩ : MethodName) (head1 (Jvm.Cond.code (⟨"com/example/prefold/prefold/passes/Node$Operator", "truth", "()Z"⟩ : MethodName) prog_80_method_4_code 1 (some .boolean) :: ws) ({ frames := 1, cells := 0, slots := 0, locals := 12 } : Room)) (fun a U => a = #[(.ref a1)] ∧ Z.Warmed39 U.vm ∧ U.heap = h0) (fun _ _ _ _ _ => True) (fun _ U o U' => ∃ v L, o = .returned v ∧ (PQ h0 n0 (.int (0 : Int32))) v U'.heap L ∧ FrameEnd U o U' L ({ frames := 1, cells := 0, slots := 0, locals := 12 } : Room).cells ({ frames := 1, cells := 0, slots := 0, locals := 12 } : Room).slots) := by
  refine MetFree.of_bodySF (plainFor_of_name pn_1) hisR ?_
  intro p e s m args below meth c s₁ Bd hml0 hP hK
  obtain ⟨rfl, hZ, hh⟩ := hP
  have hx := Bd.exec
  have hby := Bd.bytes
  have hml : c.maxLocals = 1 := hml0
  have hown : s.vm.findClass "com/example/prefold/prefold/passes/Node$Operator" = some m.cls := findClass_of_methodNamed Bd.named
  have hnm := (name_of_methodNamed Bd.named Bd.method).1
  have X0 : Stand p l e ({ frames := 1, cells := 0, slots := 0, locals := 12 } : Room) s m #[(.ref a1)] below meth c s₁ [] 0 0 := Stand.of_body Bd
  have e0 : s₁.heap = h0 := by rw [← hh, Bd.state]; rfl
  have N0 := Fr.nil n0
  show WP p e below (GG (PQ h0 n0 (.int (0 : Int32))) s ({ frames := 1, cells := 0, slots := 0, locals := 12 } : Room).cells ({ frames := 1, cells := 0, slots := 0, locals := 12 } : Room).slots) (s₁.setTop (entryFrame m #[(.ref a1)] 1))
  rw [ef_rm1_6 m a1]
  show WP p e below _ (s₁.setTop (mkF m 0 #[.val (.ref a1)] []))
  refine own_go (fun t_ k => XS.aloadN X0.here hx rfl (hb hby d1_0) rfl rfl k) ?_
  show WP p e below _ (s₁.setTop (mkF m 1 #[.val (.ref a1)] [(.ref a1)]))
  obtain ⟨cq1, kq1, q1a, q1b, q1c⟩ := isOf (T := s₁) hZ e0 E_a
  obtain ⟨_, _, ⟨T1, L1, k1, n1⟩, -, X1, ⟨Lc1, hQ1, l1, y1, z1⟩, st1⟩ := X0.virtualBackUp hx (x := (⟨"com/example/prefold/prefold/passes/Node$Operator", "ordinal", "()I"⟩ : MethodName)) (y := (⟨"java/lang/Enum", "ordinal", "()I"⟩ : MethodName)) (owner := "java/lang/Enum") hown (mvT hZ (hw _ (List.mem_of_getElem? (i := 42) rfl))) (mvT hZ (hw _ (List.mem_of_getElem? (i := 43) rfl))) (mvT hZ (hw _ (List.mem_of_getElem? (i := 44) rfl))) (by decide) (mvT hZ (hw _ (List.mem_of_getElem? (i := 46) rfl))) (mvT hZ (hw _ (List.mem_of_getElem? (i := 45) rfl))) (backOf (W := 0) (rm2 l Z a0 hw [] a1 (6 : Int32) h0 n0 F) hZ (hw _ (List.mem_of_getElem? (i := 48) rfl)) (hw _ (List.mem_of_getElem? (i := 47) rfl)) (by decide) (by decide)) q1a q1c (g := (mkF m 1 #[.val (.ref a1)] [(.ref a1)])) rfl (by rw [hml]; rfl) (Steps.refl _) (argsL := []) (rest := []) (lenOf pd_0 rfl) rfl (by show 2 * 0 + _ ≤ _; exact Nat.le_of_eq rfl) (hb hby d1_1) (fun _ _ => ⟨rfl, e0, (by decide : 0 + 0 ≤ _), (by decide : 0 + 0 ≤ _)⟩)
  dsimp only [Pt.U, Pt.locs, Pt.cells, Pt.slots] at X1 l1 y1 z1 st1 hQ1
  subst l1 y1 z1
  obtain ⟨rfl, N1q, e1⟩ := hQ1
  have N1 := Fr.app N0 N1q
  replace X1 : Stand p l e ({ frames := 1, cells := 0, slots := 0, locals := 12 } : Room) s m _ below meth c T1 _ 0 0 := X1
  refine own_go (fun t_ k => st1.trans k) ?_
  show WP p e below _ (T1.setTop (mkF m 4 #[.val (.ref a1)] [(.int (6 : Int32))]))
  refine own_go (fun t_ k => XS.tswIn X1.here hx rfl (pc0 := 4) (pc' := 80) (o := 76) rfl (hb hby d1_4) rfl (by decide) rfl (by decide) (by decide) k) ?_
  show WP p e below _ (T1.setTop (mkF m 80 #[.val (.ref a1)] []))
  refine own_go (fun t_ k => XS.iconst X1.here hx rfl (hb hby d1_80) k) ?_
  show WP p e below _ (T1.setTop (mkF m 81 #[.val (.ref a1)] [(.int (0 : Int32))]))
  exact own_retZ X1 hx Bd.notSynchronized Bd.returns (hb hby d1_81) (by decide) (show PQ h0 n0 (.int (0 : Int32)) _ _ _ from ⟨rfl, N1, e1⟩) (by decide) (by decide)
theorem ef_rm1_7 (m : MethodId) (x0 : Addr) : entryFrame m #[(.ref x0)] 1 = mkF m 0 #[.val (.ref x0)] [] := by first | (simp [entryFrame, mkF, argsToLocals, Value.category]; done) | rfl
set_option maxRecDepth 65536 in
set_option maxHeartbeats 40000000 in
theorem rm1_7 (l : Launch) (Z : State) (a0 : Array Value) (hw : ∀ d ∈ tables_1, d.before a0 Z = true) (ws : List Jvm.Cond) (a1 : Addr) (h0 : Heap) (n0 : Nat) (E_a : Exa Z h0 a1 "com/example/prefold/prefold/passes/Node$Operator") (F : Fld Z h0 a1 "java/lang/Enum" "ordinal" "I" (.int (7 : Int32))) :
    MetFree l (⟨"com/example/prefold/prefold/passes/Node$Operator", "truth", "()Z"⟩ : MethodName) (head1 (Jvm.Cond.code (⟨"com/example/prefold/prefold/passes/Node$Operator", "truth", "()Z"⟩ : MethodName) prog_80_method_4_code 1 (some .boolean) :: ws) ({ frames := 1, cells := 0, slots := 0, locals := 12 } : Room)) (fun a U => a = #[(.ref a1)] ∧ Z.Warmed39 U.vm ∧ U.heap = h0) (fun _ _ _ _ _ => True) (fun _ U o U' => ∃ v L, o = .returned v ∧ (PQ h0 n0 (.int (0 : Int32))) v U'.heap L ∧ FrameEnd U o U' L ({ frames := 1, cells := 0, slots := 0, locals := 12 } : Room).cells ({ frames := 1, cells := 0, slots := 0, locals := 12 } : Room).slots) := by
  refine MetFree.of_bodySF (plainFor_of_name pn_1) hisR ?_
  intro p e s m args below meth c s₁ Bd hml0 hP hK
  obtain ⟨rfl, hZ, hh⟩ := hP
  have hx := Bd.exec
  have hby := Bd.bytes
  have hml : c.maxLocals = 1 := hml0
  have hown : s.vm.findClass "com/example/prefold/prefold/passes/Node$Operator" = some m.cls := findClass_of_methodNamed Bd.named
  have hnm := (name_of_methodNamed Bd.named Bd.method).1
  have X0 : Stand p l e ({ frames := 1, cells := 0, slots := 0, locals := 12 } : Room) s m #[(.ref a1)] below meth c s₁ [] 0 0 := Stand.of_body Bd
  have e0 : s₁.heap = h0 := by rw [← hh, Bd.state]; rfl
  have N0 := Fr.nil n0
  show WP p e below (GG (PQ h0 n0 (.int (0 : Int32))) s ({ frames := 1, cells := 0, slots := 0, locals := 12 } : Room).cells ({ frames := 1, cells := 0, slots := 0, locals := 12 } : Room).slots) (s₁.setTop (entryFrame m #[(.ref a1)] 1))
  rw [ef_rm1_7 m a1]
  show WP p e below _ (s₁.setTop (mkF m 0 #[.val (.ref a1)] []))
  refine own_go (fun t_ k => XS.aloadN X0.here hx rfl (hb hby d1_0) rfl rfl k) ?_
  show WP p e below _ (s₁.setTop (mkF m 1 #[.val (.ref a1)] [(.ref a1)]))
  obtain ⟨cq1, kq1, q1a, q1b, q1c⟩ := isOf (T := s₁) hZ e0 E_a
  obtain ⟨_, _, ⟨T1, L1, k1, n1⟩, -, X1, ⟨Lc1, hQ1, l1, y1, z1⟩, st1⟩ := X0.virtualBackUp hx (x := (⟨"com/example/prefold/prefold/passes/Node$Operator", "ordinal", "()I"⟩ : MethodName)) (y := (⟨"java/lang/Enum", "ordinal", "()I"⟩ : MethodName)) (owner := "java/lang/Enum") hown (mvT hZ (hw _ (List.mem_of_getElem? (i := 42) rfl))) (mvT hZ (hw _ (List.mem_of_getElem? (i := 43) rfl))) (mvT hZ (hw _ (List.mem_of_getElem? (i := 44) rfl))) (by decide) (mvT hZ (hw _ (List.mem_of_getElem? (i := 46) rfl))) (mvT hZ (hw _ (List.mem_of_getElem? (i := 45) rfl))) (backOf (W := 0) (rm2 l Z a0 hw [] a1 (7 : Int32) h0 n0 F) hZ (hw _ (List.mem_of_getElem? (i := 48) rfl)) (hw _ (List.mem_of_getElem? (i := 47) rfl)) (by decide) (by decide)) q1a q1c (g := (mkF m 1 #[.val (.ref a1)] [(.ref a1)])) rfl (by rw [hml]; rfl) (Steps.refl _) (argsL := []) (rest := []) (lenOf pd_0 rfl) rfl (by show 2 * 0 + _ ≤ _; exact Nat.le_of_eq rfl) (hb hby d1_1) (fun _ _ => ⟨rfl, e0, (by decide : 0 + 0 ≤ _), (by decide : 0 + 0 ≤ _)⟩)
  dsimp only [Pt.U, Pt.locs, Pt.cells, Pt.slots] at X1 l1 y1 z1 st1 hQ1
  subst l1 y1 z1
  obtain ⟨rfl, N1q, e1⟩ := hQ1
  have N1 := Fr.app N0 N1q
  replace X1 : Stand p l e ({ frames := 1, cells := 0, slots := 0, locals := 12 } : Room) s m _ below meth c T1 _ 0 0 := X1
  refine own_go (fun t_ k => st1.trans k) ?_
  show WP p e below _ (T1.setTop (mkF m 4 #[.val (.ref a1)] [(.int (7 : Int32))]))
  refine own_go (fun t_ k => XS.tswIn X1.here hx rfl (pc0 := 4) (pc' := 80) (o := 76) rfl (hb hby d1_4) rfl (by decide) rfl (by decide) (by decide) k) ?_
  show WP p e below _ (T1.setTop (mkF m 80 #[.val (.ref a1)] []))
  refine own_go (fun t_ k => XS.iconst X1.here hx rfl (hb hby d1_80) k) ?_
  show WP p e below _ (T1.setTop (mkF m 81 #[.val (.ref a1)] [(.int (0 : Int32))]))
  exact own_retZ X1 hx Bd.notSynchronized Bd.returns (hb hby d1_81) (by decide) (show PQ h0 n0 (.int (0 : Int32)) _ _ _ from ⟨rfl, N1, e1⟩) (by decide) (by decide)
theorem ef_rm1_8 (m : MethodId) (x0 : Addr) : entryFrame m #[(.ref x0)] 1 = mkF m 0 #[.val (.ref x0)] [] := by first | (simp [entryFrame, mkF, argsToLocals, Value.category]; done) | rfl
set_option maxRecDepth 65536 in
set_option maxHeartbeats 40000000 in
theorem rm1_8 (l : Launch) (Z : State) (a0 : Array Value) (hw : ∀ d ∈ tables_1, d.before a0 Z = true) (ws : List Jvm.Cond) (a1 : Addr) (h0 : Heap) (n0 : Nat) (E_a : Exa Z h0 a1 "com/example/prefold/prefold/passes/Node$Operator") (F : Fld Z h0 a1 "java/lang/Enum" "ordinal" "I" (.int (8 : Int32))) :
    MetFree l (⟨"com/example/prefold/prefold/passes/Node$Operator", "truth", "()Z"⟩ : MethodName) (head1 (Jvm.Cond.code (⟨"com/example/prefold/prefold/passes/Node$Operator", "truth", "()Z"⟩ : MethodName) prog_80_method_4_code 1 (some .boolean) :: ws) ({ frames := 1, cells := 0, slots := 0, locals := 12 } : Room)) (fun a U => a = #[(.ref a1)] ∧ Z.Warmed39 U.vm ∧ U.heap = h0) (fun _ _ _ _ _ => True) (fun _ U o U' => ∃ v L, o = .returned v ∧ (PQ h0 n0 (.int (0 : Int32))) v U'.heap L ∧ FrameEnd U o U' L ({ frames := 1, cells := 0, slots := 0, locals := 12 } : Room).cells ({ frames := 1, cells := 0, slots := 0, locals := 12 } : Room).slots) := by
  refine MetFree.of_bodySF (plainFor_of_name pn_1) hisR ?_
  intro p e s m args below meth c s₁ Bd hml0 hP hK
  obtain ⟨rfl, hZ, hh⟩ := hP
  have hx := Bd.exec
  have hby := Bd.bytes
  have hml : c.maxLocals = 1 := hml0
  have hown : s.vm.findClass "com/example/prefold/prefold/passes/Node$Operator" = some m.cls := findClass_of_methodNamed Bd.named
  have hnm := (name_of_methodNamed Bd.named Bd.method).1
  have X0 : Stand p l e ({ frames := 1, cells := 0, slots := 0, locals := 12 } : Room) s m #[(.ref a1)] below meth c s₁ [] 0 0 := Stand.of_body Bd
  have e0 : s₁.heap = h0 := by rw [← hh, Bd.state]; rfl
  have N0 := Fr.nil n0
  show WP p e below (GG (PQ h0 n0 (.int (0 : Int32))) s ({ frames := 1, cells := 0, slots := 0, locals := 12 } : Room).cells ({ frames := 1, cells := 0, slots := 0, locals := 12 } : Room).slots) (s₁.setTop (entryFrame m #[(.ref a1)] 1))
  rw [ef_rm1_8 m a1]
  show WP p e below _ (s₁.setTop (mkF m 0 #[.val (.ref a1)] []))
  refine own_go (fun t_ k => XS.aloadN X0.here hx rfl (hb hby d1_0) rfl rfl k) ?_
  show WP p e below _ (s₁.setTop (mkF m 1 #[.val (.ref a1)] [(.ref a1)]))
  obtain ⟨cq1, kq1, q1a, q1b, q1c⟩ := isOf (T := s₁) hZ e0 E_a
  obtain ⟨_, _, ⟨T1, L1, k1, n1⟩, -, X1, ⟨Lc1, hQ1, l1, y1, z1⟩, st1⟩ := X0.virtualBackUp hx (x := (⟨"com/example/prefold/prefold/passes/Node$Operator", "ordinal", "()I"⟩ : MethodName)) (y := (⟨"java/lang/Enum", "ordinal", "()I"⟩ : MethodName)) (owner := "java/lang/Enum") hown (mvT hZ (hw _ (List.mem_of_getElem? (i := 42) rfl))) (mvT hZ (hw _ (List.mem_of_getElem? (i := 43) rfl))) (mvT hZ (hw _ (List.mem_of_getElem? (i := 44) rfl))) (by decide) (mvT hZ (hw _ (List.mem_of_getElem? (i := 46) rfl))) (mvT hZ (hw _ (List.mem_of_getElem? (i := 45) rfl))) (backOf (W := 0) (rm2 l Z a0 hw [] a1 (8 : Int32) h0 n0 F) hZ (hw _ (List.mem_of_getElem? (i := 48) rfl)) (hw _ (List.mem_of_getElem? (i := 47) rfl)) (by decide) (by decide)) q1a q1c (g := (mkF m 1 #[.val (.ref a1)] [(.ref a1)])) rfl (by rw [hml]; rfl) (Steps.refl _) (argsL := []) (rest := []) (lenOf pd_0 rfl) rfl (by show 2 * 0 + _ ≤ _; exact Nat.le_of_eq rfl) (hb hby d1_1) (fun _ _ => ⟨rfl, e0, (by decide : 0 + 0 ≤ _), (by decide : 0 + 0 ≤ _)⟩)
  dsimp only [Pt.U, Pt.locs, Pt.cells, Pt.slots] at X1 l1 y1 z1 st1 hQ1
  subst l1 y1 z1
  obtain ⟨rfl, N1q, e1⟩ := hQ1
  have N1 := Fr.app N0 N1q
  replace X1 : Stand p l e ({ frames := 1, cells := 0, slots := 0, locals := 12 } : Room) s m _ below meth c T1 _ 0 0 := X1
  refine own_go (fun t_ k => st1.trans k) ?_
  show WP p e below _ (T1.setTop (mkF m 4 #[.val (.ref a1)] [(.int (8 : Int32))]))
  refine own_go (fun t_ k => XS.tswIn X1.here hx rfl (pc0 := 4) (pc' := 80) (o := 76) rfl (hb hby d1_4) rfl (by decide) rfl (by decide) (by decide) k) ?_
  show WP p e below _ (T1.setTop (mkF m 80 #[.val (.ref a1)] []))
  refine own_go (fun t_ k => XS.iconst X1.here hx rfl (hb hby d1_80) k) ?_
  show WP p e below _ (T1.setTop (mkF m 81 #[.val (.ref a1)] [(.int (0 : Int32))]))
  exact own_retZ X1 hx Bd.notSynchronized Bd.returns (hb hby d1_81) (by decide) (show PQ h0 n0 (.int (0 : Int32)) _ _ _ from ⟨rfl, N1, e1⟩) (by decide) (by decide)
theorem ef_rm1_9 (m : MethodId) (x0 : Addr) : entryFrame m #[(.ref x0)] 1 = mkF m 0 #[.val (.ref x0)] [] := by first | (simp [entryFrame, mkF, argsToLocals, Value.category]; done) | rfl
set_option maxRecDepth 65536 in
set_option maxHeartbeats 40000000 in
theorem rm1_9 (l : Launch) (Z : State) (a0 : Array Value) (hw : ∀ d ∈ tables_1, d.before a0 Z = true) (ws : List Jvm.Cond) (a1 : Addr) (h0 : Heap) (n0 : Nat) (E_a : Exa Z h0 a1 "com/example/prefold/prefold/passes/Node$Operator") (F : Fld Z h0 a1 "java/lang/Enum" "ordinal" "I" (.int (9 : Int32))) :
    MetFree l (⟨"com/example/prefold/prefold/passes/Node$Operator", "truth", "()Z"⟩ : MethodName) (head1 (Jvm.Cond.code (⟨"com/example/prefold/prefold/passes/Node$Operator", "truth", "()Z"⟩ : MethodName) prog_80_method_4_code 1 (some .boolean) :: ws) ({ frames := 1, cells := 0, slots := 0, locals := 12 } : Room)) (fun a U => a = #[(.ref a1)] ∧ Z.Warmed39 U.vm ∧ U.heap = h0) (fun _ _ _ _ _ => True) (fun _ U o U' => ∃ v L, o = .returned v ∧ (PQ h0 n0 (.int (1 : Int32))) v U'.heap L ∧ FrameEnd U o U' L ({ frames := 1, cells := 0, slots := 0, locals := 12 } : Room).cells ({ frames := 1, cells := 0, slots := 0, locals := 12 } : Room).slots) := by
  refine MetFree.of_bodySF (plainFor_of_name pn_1) hisR ?_
  intro p e s m args below meth c s₁ Bd hml0 hP hK
  obtain ⟨rfl, hZ, hh⟩ := hP
  have hx := Bd.exec
  have hby := Bd.bytes
  have hml : c.maxLocals = 1 := hml0
  have hown : s.vm.findClass "com/example/prefold/prefold/passes/Node$Operator" = some m.cls := findClass_of_methodNamed Bd.named
  have hnm := (name_of_methodNamed Bd.named Bd.method).1
  have X0 : Stand p l e ({ frames := 1, cells := 0, slots := 0, locals := 12 } : Room) s m #[(.ref a1)] below meth c s₁ [] 0 0 := Stand.of_body Bd
  have e0 : s₁.heap = h0 := by rw [← hh, Bd.state]; rfl
  have N0 := Fr.nil n0
  show WP p e below (GG (PQ h0 n0 (.int (1 : Int32))) s ({ frames := 1, cells := 0, slots := 0, locals := 12 } : Room).cells ({ frames := 1, cells := 0, slots := 0, locals := 12 } : Room).slots) (s₁.setTop (entryFrame m #[(.ref a1)] 1))
  rw [ef_rm1_9 m a1]
  show WP p e below _ (s₁.setTop (mkF m 0 #[.val (.ref a1)] []))
  refine own_go (fun t_ k => XS.aloadN X0.here hx rfl (hb hby d1_0) rfl rfl k) ?_
  show WP p e below _ (s₁.setTop (mkF m 1 #[.val (.ref a1)] [(.ref a1)]))
  obtain ⟨cq1, kq1, q1a, q1b, q1c⟩ := isOf (T := s₁) hZ e0 E_a
  obtain ⟨_, _, ⟨T1, L1, k1, n1⟩, -, X1, ⟨Lc1, hQ1, l1, y1, z1⟩, st1⟩ := X0.virtualBackUp hx (x := (⟨"com/example/prefold/prefold/passes/Node$Operator", "ordinal", "()I"⟩ : MethodName)) (y := (⟨"java/lang/Enum", "ordinal", "()I"⟩ : MethodName)) (owner := "java/lang/Enum") hown (mvT hZ (hw _ (List.mem_of_getElem? (i := 42) rfl))) (mvT hZ (hw _ (List.mem_of_getElem? (i := 43) rfl))) (mvT hZ (hw _ (List.mem_of_getElem? (i := 44) rfl))) (by decide) (mvT hZ (hw _ (List.mem_of_getElem? (i := 46) rfl))) (mvT hZ (hw _ (List.mem_of_getElem? (i := 45) rfl))) (backOf (W := 0) (rm2 l Z a0 hw [] a1 (9 : Int32) h0 n0 F) hZ (hw _ (List.mem_of_getElem? (i := 48) rfl)) (hw _ (List.mem_of_getElem? (i := 47) rfl)) (by decide) (by decide)) q1a q1c (g := (mkF m 1 #[.val (.ref a1)] [(.ref a1)])) rfl (by rw [hml]; rfl) (Steps.refl _) (argsL := []) (rest := []) (lenOf pd_0 rfl) rfl (by show 2 * 0 + _ ≤ _; exact Nat.le_of_eq rfl) (hb hby d1_1) (fun _ _ => ⟨rfl, e0, (by decide : 0 + 0 ≤ _), (by decide : 0 + 0 ≤ _)⟩)
  dsimp only [Pt.U, Pt.locs, Pt.cells, Pt.slots] at X1 l1 y1 z1 st1 hQ1
  subst l1 y1 z1
  obtain ⟨rfl, N1q, e1⟩ := hQ1
  have N1 := Fr.app N0 N1q
  replace X1 : Stand p l e ({ frames := 1, cells := 0, slots := 0, locals := 12 } : Room) s m _ below meth c T1 _ 0 0 := X1
  refine own_go (fun t_ k => st1.trans k) ?_
  show WP p e below _ (T1.setTop (mkF m 4 #[.val (.ref a1)] [(.int (9 : Int32))]))
  refine own_go (fun t_ k => XS.tswIn X1.here hx rfl (pc0 := 4) (pc' := 76) (o := 72) rfl (hb hby d1_4) rfl (by decide) rfl (by decide) (by decide) k) ?_
  show WP p e below _ (T1.setTop (mkF m 76 #[.val (.ref a1)] []))
  refine own_go (fun t_ k => XS.iconst X1.here hx rfl (hb hby d1_76) k) ?_
  show WP p e below _ (T1.setTop (mkF m 77 #[.val (.ref a1)] [(.int (1 : Int32))]))
  refine own_go (fun t_ k => XS.goto X1.here hx rfl (pc0 := 77) (pc' := 81) rfl (hb hby d1_77) (by decide) (by decide) k) ?_
  show WP p e below _ (T1.setTop (mkF m 81 #[.val (.ref a1)] [(.int (1 : Int32))]))
  exact own_retZ X1 hx Bd.notSynchronized Bd.returns (hb hby d1_81) (by decide) (show PQ h0 n0 (.int (1 : Int32)) _ _ _ from ⟨rfl, N1, e1⟩) (by decide) (by decide)
theorem ef_rm1_10 (m : MethodId) (x0 : Addr) : entryFrame m #[(.ref x0)] 1 = mkF m 0 #[.val (.ref x0)] [] := by first | (simp [entryFrame, mkF, argsToLocals, Value.category]; done) | rfl
set_option maxRecDepth 65536 in
set_option maxHeartbeats 40000000 in
theorem rm1_10 (l : Launch) (Z : State) (a0 : Array Value) (hw : ∀ d ∈ tables_1, d.before a0 Z = true) (ws : List Jvm.Cond) (a1 : Addr) (h0 : Heap) (n0 : Nat) (E_a : Exa Z h0 a1 "com/example/prefold/prefold/passes/Node$Operator") (F : Fld Z h0 a1 "java/lang/Enum" "ordinal" "I" (.int (10 : Int32))) :
    MetFree l (⟨"com/example/prefold/prefold/passes/Node$Operator", "truth", "()Z"⟩ : MethodName) (head1 (Jvm.Cond.code (⟨"com/example/prefold/prefold/passes/Node$Operator", "truth", "()Z"⟩ : MethodName) prog_80_method_4_code 1 (some .boolean) :: ws) ({ frames := 1, cells := 0, slots := 0, locals := 12 } : Room)) (fun a U => a = #[(.ref a1)] ∧ Z.Warmed39 U.vm ∧ U.heap = h0) (fun _ _ _ _ _ => True) (fun _ U o U' => ∃ v L, o = .returned v ∧ (PQ h0 n0 (.int (1 : Int32))) v U'.heap L ∧ FrameEnd U o U' L ({ frames := 1, cells := 0, slots := 0, locals := 12 } : Room).cells ({ frames := 1, cells := 0, slots := 0, locals := 12 } : Room).slots) := by
  refine MetFree.of_bodySF (plainFor_of_name pn_1) hisR ?_
  intro p e s m args below meth c s₁ Bd hml0 hP hK
  obtain ⟨rfl, hZ, hh⟩ := hP
  have hx := Bd.exec
  have hby := Bd.bytes
  have hml : c.maxLocals = 1 := hml0
  have hown : s.vm.findClass "com/example/prefold/prefold/passes/Node$Operator" = some m.cls := findClass_of_methodNamed Bd.named
  have hnm := (name_of_methodNamed Bd.named Bd.method).1
  have X0 : Stand p l e ({ frames := 1, cells := 0, slots := 0, locals := 12 } : Room) s m #[(.ref a1)] below meth c s₁ [] 0 0 := Stand.of_body Bd
  have e0 : s₁.heap = h0 := by rw [← hh, Bd.state]; rfl
  have N0 := Fr.nil n0
  show WP p e below (GG (PQ h0 n0 (.int (1 : Int32))) s ({ frames := 1, cells := 0, slots := 0, locals := 12 } : Room).cells ({ frames := 1, cells := 0, slots := 0, locals := 12 } : Room).slots) (s₁.setTop (entryFrame m #[(.ref a1)] 1))
  rw [ef_rm1_10 m a1]
  show WP p e below _ (s₁.setTop (mkF m 0 #[.val (.ref a1)] []))
  refine own_go (fun t_ k => XS.aloadN X0.here hx rfl (hb hby d1_0) rfl rfl k) ?_
  show WP p e below _ (s₁.setTop (mkF m 1 #[.val (.ref a1)] [(.ref a1)]))
  obtain ⟨cq1, kq1, q1a, q1b, q1c⟩ := isOf (T := s₁) hZ e0 E_a
  obtain ⟨_, _, ⟨T1, L1, k1, n1⟩, -, X1, ⟨Lc1, hQ1, l1, y1, z1⟩, st1⟩ := X0.virtualBackUp hx (x := (⟨"com/example/prefold/prefold/passes/Node$Operator", "ordinal", "()I"⟩ : MethodName)) (y := (⟨"java/lang/Enum", "ordinal", "()I"⟩ : MethodName)) (owner := "java/lang/Enum") hown (mvT hZ (hw _ (List.mem_of_getElem? (i := 42) rfl))) (mvT hZ (hw _ (List.mem_of_getElem? (i := 43) rfl))) (mvT hZ (hw _ (List.mem_of_getElem? (i := 44) rfl))) (by decide) (mvT hZ (hw _ (List.mem_of_getElem? (i := 46) rfl))) (mvT hZ (hw _ (List.mem_of_getElem? (i := 45) rfl))) (backOf (W := 0) (rm2 l Z a0 hw [] a1 (10 : Int32) h0 n0 F) hZ (hw _ (List.mem_of_getElem? (i := 48) rfl)) (hw _ (List.mem_of_getElem? (i := 47) rfl)) (by decide) (by decide)) q1a q1c (g := (mkF m 1 #[.val (.ref a1)] [(.ref a1)])) rfl (by rw [hml]; rfl) (Steps.refl _) (argsL := []) (rest := []) (lenOf pd_0 rfl) rfl (by show 2 * 0 + _ ≤ _; exact Nat.le_of_eq rfl) (hb hby d1_1) (fun _ _ => ⟨rfl, e0, (by decide : 0 + 0 ≤ _), (by decide : 0 + 0 ≤ _)⟩)
  dsimp only [Pt.U, Pt.locs, Pt.cells, Pt.slots] at X1 l1 y1 z1 st1 hQ1
  subst l1 y1 z1
  obtain ⟨rfl, N1q, e1⟩ := hQ1
  have N1 := Fr.app N0 N1q
  replace X1 : Stand p l e ({ frames := 1, cells := 0, slots := 0, locals := 12 } : Room) s m _ below meth c T1 _ 0 0 := X1
  refine own_go (fun t_ k => st1.trans k) ?_
  show WP p e below _ (T1.setTop (mkF m 4 #[.val (.ref a1)] [(.int (10 : Int32))]))
  refine own_go (fun t_ k => XS.tswIn X1.here hx rfl (pc0 := 4) (pc' := 76) (o := 72) rfl (hb hby d1_4) rfl (by decide) rfl (by decide) (by decide) k) ?_
  show WP p e below _ (T1.setTop (mkF m 76 #[.val (.ref a1)] []))
  refine own_go (fun t_ k => XS.iconst X1.here hx rfl (hb hby d1_76) k) ?_
  show WP p e below _ (T1.setTop (mkF m 77 #[.val (.ref a1)] [(.int (1 : Int32))]))
  refine own_go (fun t_ k => XS.goto X1.here hx rfl (pc0 := 77) (pc' := 81) rfl (hb hby d1_77) (by decide) (by decide) k) ?_
  show WP p e below _ (T1.setTop (mkF m 81 #[.val (.ref a1)] [(.int (1 : Int32))]))
  exact own_retZ X1 hx Bd.notSynchronized Bd.returns (hb hby d1_81) (by decide) (show PQ h0 n0 (.int (1 : Int32)) _ _ _ from ⟨rfl, N1, e1⟩) (by decide) (by decide)
theorem ef_rm1_11 (m : MethodId) (x0 : Addr) : entryFrame m #[(.ref x0)] 1 = mkF m 0 #[.val (.ref x0)] [] := by first | (simp [entryFrame, mkF, argsToLocals, Value.category]; done) | rfl
set_option maxRecDepth 65536 in
set_option maxHeartbeats 40000000 in
theorem rm1_11 (l : Launch) (Z : State) (a0 : Array Value) (hw : ∀ d ∈ tables_1, d.before a0 Z = true) (ws : List Jvm.Cond) (a1 : Addr) (h0 : Heap) (n0 : Nat) (E_a : Exa Z h0 a1 "com/example/prefold/prefold/passes/Node$Operator") (F : Fld Z h0 a1 "java/lang/Enum" "ordinal" "I" (.int (11 : Int32))) :
    MetFree l (⟨"com/example/prefold/prefold/passes/Node$Operator", "truth", "()Z"⟩ : MethodName) (head1 (Jvm.Cond.code (⟨"com/example/prefold/prefold/passes/Node$Operator", "truth", "()Z"⟩ : MethodName) prog_80_method_4_code 1 (some .boolean) :: ws) ({ frames := 1, cells := 0, slots := 0, locals := 12 } : Room)) (fun a U => a = #[(.ref a1)] ∧ Z.Warmed39 U.vm ∧ U.heap = h0) (fun _ _ _ _ _ => True) (fun _ U o U' => ∃ v L, o = .returned v ∧ (PQ h0 n0 (.int (1 : Int32))) v U'.heap L ∧ FrameEnd U o U' L ({ frames := 1, cells := 0, slots := 0, locals := 12 } : Room).cells ({ frames := 1, cells := 0, slots := 0, locals := 12 } : Room).slots) := by
  refine MetFree.of_bodySF (plainFor_of_name pn_1) hisR ?_
  intro p e s m args below meth c s₁ Bd hml0 hP hK
  obtain ⟨rfl, hZ, hh⟩ := hP
  have hx := Bd.exec
  have hby := Bd.bytes
  have hml : c.maxLocals = 1 := hml0
  have hown : s.vm.findClass "com/example/prefold/prefold/passes/Node$Operator" = some m.cls := findClass_of_methodNamed Bd.named
  have hnm := (name_of_methodNamed Bd.named Bd.method).1
  have X0 : Stand p l e ({ frames := 1, cells := 0, slots := 0, locals := 12 } : Room) s m #[(.ref a1)] below meth c s₁ [] 0 0 := Stand.of_body Bd
  have e0 : s₁.heap = h0 := by rw [← hh, Bd.state]; rfl
  have N0 := Fr.nil n0
  show WP p e below (GG (PQ h0 n0 (.int (1 : Int32))) s ({ frames := 1, cells := 0, slots := 0, locals := 12 } : Room).cells ({ frames := 1, cells := 0, slots := 0, locals := 12 } : Room).slots) (s₁.setTop (entryFrame m #[(.ref a1)] 1))
  rw [ef_rm1_11 m a1]
  show WP p e below _ (s₁.setTop (mkF m 0 #[.val (.ref a1)] []))
  refine own_go (fun t_ k => XS.aloadN X0.here hx rfl (hb hby d1_0) rfl rfl k) ?_
  show WP p e below _ (s₁.setTop (mkF m 1 #[.val (.ref a1)] [(.ref a1)]))
  obtain ⟨cq1, kq1, q1a, q1b, q1c⟩ := isOf (T := s₁) hZ e0 E_a
  obtain ⟨_, _, ⟨T1, L1, k1, n1⟩, -, X1, ⟨Lc1, hQ1, l1, y1, z1⟩, st1⟩ := X0.virtualBackUp hx (x := (⟨"com/example/prefold/prefold/passes/Node$Operator", "ordinal", "()I"⟩ : MethodName)) (y := (⟨"java/lang/Enum", "ordinal", "()I"⟩ : MethodName)) (owner := "java/lang/Enum") hown (mvT hZ (hw _ (List.mem_of_getElem? (i := 42) rfl))) (mvT hZ (hw _ (List.mem_of_getElem? (i := 43) rfl))) (mvT hZ (hw _ (List.mem_of_getElem? (i := 44) rfl))) (by decide) (mvT hZ (hw _ (List.mem_of_getElem? (i := 46) rfl))) (mvT hZ (hw _ (List.mem_of_getElem? (i := 45) rfl))) (backOf (W := 0) (rm2 l Z a0 hw [] a1 (11 : Int32) h0 n0 F) hZ (hw _ (List.mem_of_getElem? (i := 48) rfl)) (hw _ (List.mem_of_getElem? (i := 47) rfl)) (by decide) (by decide)) q1a q1c (g := (mkF m 1 #[.val (.ref a1)] [(.ref a1)])) rfl (by rw [hml]; rfl) (Steps.refl _) (argsL := []) (rest := []) (lenOf pd_0 rfl) rfl (by show 2 * 0 + _ ≤ _; exact Nat.le_of_eq rfl) (hb hby d1_1) (fun _ _ => ⟨rfl, e0, (by decide : 0 + 0 ≤ _), (by decide : 0 + 0 ≤ _)⟩)
  dsimp only [Pt.U, Pt.locs, Pt.cells, Pt.slots] at X1 l1 y1 z1 st1 hQ1
  subst l1 y1 z1
  obtain ⟨rfl, N1q, e1⟩ := hQ1
  have N1 := Fr.app N0 N1q
  replace X1 : Stand p l e ({ frames := 1, cells := 0, slots := 0, locals := 12 } : Room) s m _ below meth c T1 _ 0 0 := X1
  refine own_go (fun t_ k => st1.trans k) ?_
  show WP p e below _ (T1.setTop (mkF m 4 #[.val (.ref a1)] [(.int (11 : Int32))]))
  refine own_go (fun t_ k => XS.tswIn X1.here hx rfl (pc0 := 4) (pc' := 76) (o := 72) rfl (hb hby d1_4) rfl (by decide) rfl (by decide) (by decide) k) ?_
  show WP p e below _ (T1.setTop (mkF m 76 #[.val (.ref a1)] []))
  refine own_go (fun t_ k => XS.iconst X1.here hx rfl (hb hby d1_76) k) ?_
  show WP p e below _ (T1.setTop (mkF m 77 #[.val (.ref a1)] [(.int (1 : Int32))]))
  refine own_go (fun t_ k => XS.goto X1.here hx rfl (pc0 := 77) (pc' := 81) rfl (hb hby d1_77) (by decide) (by decide) k) ?_
  show WP p e below _ (T1.setTop (mkF m 81 #[.val (.ref a1)] [(.int (1 : Int32))]))
  exact own_retZ X1 hx Bd.notSynchronized Bd.returns (hb hby d1_81) (by decide) (show PQ h0 n0 (.int (1 : Int32)) _ _ _ from ⟨rfl, N1, e1⟩) (by decide) (by decide)
theorem ef_rm1_12 (m : MethodId) (x0 : Addr) : entryFrame m #[(.ref x0)] 1 = mkF m 0 #[.val (.ref x0)] [] := by first | (simp [entryFrame, mkF, argsToLocals, Value.category]; done) | rfl
set_option maxRecDepth 65536 in
set_option maxHeartbeats 40000000 in
theorem rm1_12 (l : Launch) (Z : State) (a0 : Array Value) (hw : ∀ d ∈ tables_1, d.before a0 Z = true) (ws : List Jvm.Cond) (a1 : Addr) (h0 : Heap) (n0 : Nat) (E_a : Exa Z h0 a1 "com/example/prefold/prefold/passes/Node$Operator") (F : Fld Z h0 a1 "java/lang/Enum" "ordinal" "I" (.int (12 : Int32))) :
    MetFree l (⟨"com/example/prefold/prefold/passes/Node$Operator", "truth", "()Z"⟩ : MethodName) (head1 (Jvm.Cond.code (⟨"com/example/prefold/prefold/passes/Node$Operator", "truth", "()Z"⟩ : MethodName) prog_80_method_4_code 1 (some .boolean) :: ws) ({ frames := 1, cells := 0, slots := 0, locals := 12 } : Room)) (fun a U => a = #[(.ref a1)] ∧ Z.Warmed39 U.vm ∧ U.heap = h0) (fun _ _ _ _ _ => True) (fun _ U o U' => ∃ v L, o = .returned v ∧ (PQ h0 n0 (.int (1 : Int32))) v U'.heap L ∧ FrameEnd U o U' L ({ frames := 1, cells := 0, slots := 0, locals := 12 } : Room).cells ({ frames := 1, cells := 0, slots := 0, locals := 12 } : Room).slots) := by
  refine MetFree.of_bodySF (plainFor_of_name pn_1) hisR ?_
  intro p e s m args below meth c s₁ Bd hml0 hP hK
  obtain ⟨rfl, hZ, hh⟩ := hP
  have hx := Bd.exec
  have hby := Bd.bytes
  have hml : c.maxLocals = 1 := hml0
  have hown : s.vm.findClass "com/example/prefold/prefold/passes/Node$Operator" = some m.cls := findClass_of_methodNamed Bd.named
  have hnm := (name_of_methodNamed Bd.named Bd.method).1
  have X0 : Stand p l e ({ frames := 1, cells := 0, slots := 0, locals := 12 } : Room) s m #[(.ref a1)] below meth c s₁ [] 0 0 := Stand.of_body Bd
  have e0 : s₁.heap = h0 := by rw [← hh, Bd.state]; rfl
  have N0 := Fr.nil n0
  show WP p e below (GG (PQ h0 n0 (.int (1 : Int32))) s ({ frames := 1, cells := 0, slots := 0, locals := 12 } : Room).cells ({ frames := 1, cells := 0, slots := 0, locals := 12 } : Room).slots) (s₁.setTop (entryFrame m #[(.ref a1)] 1))
  rw [ef_rm1_12 m a1]
  show WP p e below _ (s₁.setTop (mkF m 0 #[.val (.ref a1)] []))
  refine own_go (fun t_ k => XS.aloadN X0.here hx rfl (hb hby d1_0) rfl rfl k) ?_
  show WP p e below _ (s₁.setTop (mkF m 1 #[.val (.ref a1)] [(.ref a1)]))
  obtain ⟨cq1, kq1, q1a, q1b, q1c⟩ := isOf (T := s₁) hZ e0 E_a
  obtain ⟨_, _, ⟨T1, L1, k1, n1⟩, -, X1, ⟨Lc1, hQ1, l1, y1, z1⟩, st1⟩ := X0.virtualBackUp hx (x := (⟨"com/example/prefold/prefold/passes/Node$Operator", "ordinal", "()I"⟩ : MethodName)) (y := (⟨"java/lang/Enum", "ordinal", "()I"⟩ : MethodName)) (owner := "java/lang/Enum") hown (mvT hZ (hw _ (List.mem_of_getElem? (i := 42) rfl))) (mvT hZ (hw _ (List.mem_of_getElem? (i := 43) rfl))) (mvT hZ (hw _ (List.mem_of_getElem? (i := 44) rfl))) (by decide) (mvT hZ (hw _ (List.mem_of_getElem? (i := 46) rfl))) (mvT hZ (hw _ (List.mem_of_getElem? (i := 45) rfl))) (backOf (W := 0) (rm2 l Z a0 hw [] a1 (12 : Int32) h0 n0 F) hZ (hw _ (List.mem_of_getElem? (i := 48) rfl)) (hw _ (List.mem_of_getElem? (i := 47) rfl)) (by decide) (by decide)) q1a q1c (g := (mkF m 1 #[.val (.ref a1)] [(.ref a1)])) rfl (by rw [hml]; rfl) (Steps.refl _) (argsL := []) (rest := []) (lenOf pd_0 rfl) rfl (by show 2 * 0 + _ ≤ _; exact Nat.le_of_eq rfl) (hb hby d1_1) (fun _ _ => ⟨rfl, e0, (by decide : 0 + 0 ≤ _), (by decide : 0 + 0 ≤ _)⟩)
  dsimp only [Pt.U, Pt.locs, Pt.cells, Pt.slots] at X1 l1 y1 z1 st1 hQ1
  subst l1 y1 z1
  obtain ⟨rfl, N1q, e1⟩ := hQ1
  have N1 := Fr.app N0 N1q
  replace X1 : Stand p l e ({ frames := 1, cells := 0, slots := 0, locals := 12 } : Room) s m _ below meth c T1 _ 0 0 := X1
  refine own_go (fun t_ k => st1.trans k) ?_
  show WP p e below _ (T1.setTop (mkF m 4 #[.val (.ref a1)] [(.int (12 : Int32))]))
  refine own_go (fun t_ k => XS.tswIn X1.here hx rfl (pc0 := 4) (pc' := 76) (o := 72) rfl (hb hby d1_4) rfl (by decide) rfl (by decide) (by decide) k) ?_
  show WP p e below _ (T1.setTop (mkF m 76 #[.val (.ref a1)] []))
  refine own_go (fun t_ k => XS.iconst X1.here hx rfl (hb hby d1_76) k) ?_
  show WP p e below _ (T1.setTop (mkF m 77 #[.val (.ref a1)] [(.int (1 : Int32))]))
  refine own_go (fun t_ k => XS.goto X1.here hx rfl (pc0 := 77) (pc' := 81) rfl (hb hby d1_77) (by decide) (by decide) k) ?_
  show WP p e below _ (T1.setTop (mkF m 81 #[.val (.ref a1)] [(.int (1 : Int32))]))
  exact own_retZ X1 hx Bd.notSynchronized Bd.returns (hb hby d1_81) (by decide) (show PQ h0 n0 (.int (1 : Int32)) _ _ _ from ⟨rfl, N1, e1⟩) (by decide) (by decide)
theorem ef_rm1_13 (m : MethodId) (x0 : Addr) : entryFrame m #[(.ref x0)] 1 = mkF m 0 #[.val (.ref x0)] [] := by first | (simp [entryFrame, mkF, argsToLocals, Value.category]; done) | rfl
set_option maxRecDepth 65536 in
set_option maxHeartbeats 40000000 in
theorem rm1_13 (l : Launch) (Z : State) (a0 : Array Value) (hw : ∀ d ∈ tables_1, d.before a0 Z = true) (ws : List Jvm.Cond) (a1 : Addr) (h0 : Heap) (n0 : Nat) (E_a : Exa Z h0 a1 "com/example/prefold/prefold/passes/Node$Operator") (F : Fld Z h0 a1 "java/lang/Enum" "ordinal" "I" (.int (13 : Int32))) :
    MetFree l (⟨"com/example/prefold/prefold/passes/Node$Operator", "truth", "()Z"⟩ : MethodName) (head1 (Jvm.Cond.code (⟨"com/example/prefold/prefold/passes/Node$Operator", "truth", "()Z"⟩ : MethodName) prog_80_method_4_code 1 (some .boolean) :: ws) ({ frames := 1, cells := 0, slots := 0, locals := 12 } : Room)) (fun a U => a = #[(.ref a1)] ∧ Z.Warmed39 U.vm ∧ U.heap = h0) (fun _ _ _ _ _ => True) (fun _ U o U' => ∃ v L, o = .returned v ∧ (PQ h0 n0 (.int (1 : Int32))) v U'.heap L ∧ FrameEnd U o U' L ({ frames := 1, cells := 0, slots := 0, locals := 12 } : Room).cells ({ frames := 1, cells := 0, slots := 0, locals := 12 } : Room).slots) := by
  refine MetFree.of_bodySF (plainFor_of_name pn_1) hisR ?_
  intro p e s m args below meth c s₁ Bd hml0 hP hK
  obtain ⟨rfl, hZ, hh⟩ := hP
  have hx := Bd.exec
  have hby := Bd.bytes
  have hml : c.maxLocals = 1 := hml0
  have hown : s.vm.findClass "com/example/prefold/prefold/passes/Node$Operator" = some m.cls := findClass_of_methodNamed Bd.named
  have hnm := (name_of_methodNamed Bd.named Bd.method).1
  have X0 : Stand p l e ({ frames := 1, cells := 0, slots := 0, locals := 12 } : Room) s m #[(.ref a1)] below meth c s₁ [] 0 0 := Stand.of_body Bd
  have e0 : s₁.heap = h0 := by rw [← hh, Bd.state]; rfl
  have N0 := Fr.nil n0
  show WP p e below (GG (PQ h0 n0 (.int (1 : Int32))) s ({ frames := 1, cells := 0, slots := 0, locals := 12 } : Room).cells ({ frames := 1, cells := 0, slots := 0, locals := 12 } : Room).slots) (s₁.setTop (entryFrame m #[(.ref a1)] 1))
  rw [ef_rm1_13 m a1]
  show WP p e below _ (s₁.setTop (mkF m 0 #[.val (.ref a1)] []))
  refine own_go (fun t_ k => XS.aloadN X0.here hx rfl (hb hby d1_0) rfl rfl k) ?_
  show WP p e below _ (s₁.setTop (mkF m 1 #[.val (.ref a1)] [(.ref a1)]))
  obtain ⟨cq1, kq1, q1a, q1b, q1c⟩ := isOf (T := s₁) hZ e0 E_a
  obtain ⟨_, _, ⟨T1, L1, k1, n1⟩, -, X1, ⟨Lc1, hQ1, l1, y1, z1⟩, st1⟩ := X0.virtualBackUp hx (x := (⟨"com/example/prefold/prefold/passes/Node$Operator", "ordinal", "()I"⟩ : MethodName)) (y := (⟨"java/lang/Enum", "ordinal", "()I"⟩ : MethodName)) (owner := "java/lang/Enum") hown (mvT hZ (hw _ (List.mem_of_getElem? (i := 42) rfl))) (mvT hZ (hw _ (List.mem_of_getElem? (i := 43) rfl))) (mvT hZ (hw _ (List.mem_of_getElem? (i := 44) rfl))) (by decide) (mvT hZ (hw _ (List.mem_of_getElem? (i := 46) rfl))) (mvT hZ (hw _ (List.mem_of_getElem? (i := 45) rfl))) (backOf (W := 0) (rm2 l Z a0 hw [] a1 (13 : Int32) h0 n0 F) hZ (hw _ (List.mem_of_getElem? (i := 48) rfl)) (hw _ (List.mem_of_getElem? (i := 47) rfl)) (by decide) (by decide)) q1a q1c (g := (mkF m 1 #[.val (.ref a1)] [(.ref a1)])) rfl (by rw [hml]; rfl) (Steps.refl _) (argsL := []) (rest := []) (lenOf pd_0 rfl) rfl (by show 2 * 0 + _ ≤ _; exact Nat.le_of_eq rfl) (hb hby d1_1) (fun _ _ => ⟨rfl, e0, (by decide : 0 + 0 ≤ _), (by decide : 0 + 0 ≤ _)⟩)
  dsimp only [Pt.U, Pt.locs, Pt.cells, Pt.slots] at X1 l1 y1 z1 st1 hQ1
  subst l1 y1 z1
  obtain ⟨rfl, N1q, e1⟩ := hQ1
  have N1 := Fr.app N0 N1q
  replace X1 : Stand p l e ({ frames := 1, cells := 0, slots := 0, locals := 12 } : Room) s m _ below meth c T1 _ 0 0 := X1
  refine own_go (fun t_ k => st1.trans k) ?_
  show WP p e below _ (T1.setTop (mkF m 4 #[.val (.ref a1)] [(.int (13 : Int32))]))
  refine own_go (fun t_ k => XS.tswIn X1.here hx rfl (pc0 := 4) (pc' := 76) (o := 72) rfl (hb hby d1_4) rfl (by decide) rfl (by decide) (by decide) k) ?_
  show WP p e below _ (T1.setTop (mkF m 76 #[.val (.ref a1)] []))
  refine own_go (fun t_ k => XS.iconst X1.here hx rfl (hb hby d1_76) k) ?_
  show WP p e below _ (T1.setTop (mkF m 77 #[.val (.ref a1)] [(.int (1 : Int32))]))
  refine own_go (fun t_ k => XS.goto X1.here hx rfl (pc0 := 77) (pc' := 81) rfl (hb hby d1_77) (by decide) (by decide) k) ?_
  show WP p e below _ (T1.setTop (mkF m 81 #[.val (.ref a1)] [(.int (1 : Int32))]))
  exact own_retZ X1 hx Bd.notSynchronized Bd.returns (hb hby d1_81) (by decide) (show PQ h0 n0 (.int (1 : Int32)) _ _ _ from ⟨rfl, N1, e1⟩) (by decide) (by decide)
theorem ef_rm1_14 (m : MethodId) (x0 : Addr) : entryFrame m #[(.ref x0)] 1 = mkF m 0 #[.val (.ref x0)] [] := by first | (simp [entryFrame, mkF, argsToLocals, Value.category]; done) | rfl
set_option maxRecDepth 65536 in
set_option maxHeartbeats 40000000 in
theorem rm1_14 (l : Launch) (Z : State) (a0 : Array Value) (hw : ∀ d ∈ tables_1, d.before a0 Z = true) (ws : List Jvm.Cond) (a1 : Addr) (h0 : Heap) (n0 : Nat) (E_a : Exa Z h0 a1 "com/example/prefold/prefold/passes/Node$Operator") (F : Fld Z h0 a1 "java/lang/Enum" "ordinal" "I" (.int (14 : Int32))) :
    MetFree l (⟨"com/example/prefold/prefold/passes/Node$Operator", "truth", "()Z"⟩ : MethodName) (head1 (Jvm.Cond.code (⟨"com/example/prefold/prefold/passes/Node$Operator", "truth", "()Z"⟩ : MethodName) prog_80_method_4_code 1 (some .boolean) :: ws) ({ frames := 1, cells := 0, slots := 0, locals := 12 } : Room)) (fun a U => a = #[(.ref a1)] ∧ Z.Warmed39 U.vm ∧ U.heap = h0) (fun _ _ _ _ _ => True) (fun _ U o U' => ∃ v L, o = .returned v ∧ (PQ h0 n0 (.int (1 : Int32))) v U'.heap L ∧ FrameEnd U o U' L ({ frames := 1, cells := 0, slots := 0, locals := 12 } : Room).cells ({ frames := 1, cells := 0, slots := 0, locals := 12 } : Room).slots) := by
  refine MetFree.of_bodySF (plainFor_of_name pn_1) hisR ?_
  intro p e s m args below meth c s₁ Bd hml0 hP hK
  obtain ⟨rfl, hZ, hh⟩ := hP
  have hx := Bd.exec
  have hby := Bd.bytes
  have hml : c.maxLocals = 1 := hml0
  have hown : s.vm.findClass "com/example/prefold/prefold/passes/Node$Operator" = some m.cls := findClass_of_methodNamed Bd.named
  have hnm := (name_of_methodNamed Bd.named Bd.method).1
  have X0 : Stand p l e ({ frames := 1, cells := 0, slots := 0, locals := 12 } : Room) s m #[(.ref a1)] below meth c s₁ [] 0 0 := Stand.of_body Bd
  have e0 : s₁.heap = h0 := by rw [← hh, Bd.state]; rfl
  have N0 := Fr.nil n0
  show WP p e below (GG (PQ h0 n0 (.int (1 : Int32))) s ({ frames := 1, cells := 0, slots := 0, locals := 12 } : Room).cells ({ frames := 1, cells := 0, slots := 0, locals := 12 } : Room).slots) (s₁.setTop (entryFrame m #[(.ref a1)] 1))
  rw [ef_rm1_14 m a1]
  show WP p e below _ (s₁.setTop (mkF m 0 #[.val (.ref a1)] []))
  refine own_go (fun t_ k => XS.aloadN X0.here hx rfl (hb hby d1_0) rfl rfl k) ?_
  show WP p e below _ (s₁.setTop (mkF m 1 #[.val (.ref a1)] [(.ref a1)]))
  obtain ⟨cq1, kq1, q1a, q1b, q1c⟩ := isOf (T := s₁) hZ e0 E_a
  obtain ⟨_, _, ⟨T1, L1, k1, n1⟩, -, X1, ⟨Lc1, hQ1, l1, y1, z1⟩, st1⟩ := X0.virtualBackUp hx (x := (⟨"com/example/prefold/prefold/passes/Node$Operator", "ordinal", "()I"⟩ : MethodName)) (y := (⟨"java/lang/Enum", "ordinal", "()I"⟩ : MethodName)) (owner := "java/lang/Enum") hown (mvT hZ (hw _ (List.mem_of_getElem? (i := 42) rfl))) (mvT hZ (hw _ (List.mem_of_getElem? (i := 43) rfl))) (mvT hZ (hw _ (List.mem_of_getElem? (i := 44) rfl))) (by decide) (mvT hZ (hw _ (List.mem_of_getElem? (i := 46) rfl))) (mvT hZ (hw _ (List.mem_of_getElem? (i := 45) rfl))) (backOf (W := 0) (rm2 l Z a0 hw [] a1 (14 : Int32) h0 n0 F) hZ (hw _ (List.mem_of_getElem? (i := 48) rfl)) (hw _ (List.mem_of_getElem? (i := 47) rfl)) (by decide) (by decide)) q1a q1c (g := (mkF m 1 #[.val (.ref a1)] [(.ref a1)])) rfl (by rw [hml]; rfl) (Steps.refl _) (argsL := []) (rest := []) (lenOf pd_0 rfl) rfl (by show 2 * 0 + _ ≤ _; exact Nat.le_of_eq rfl) (hb hby d1_1) (fun _ _ => ⟨rfl, e0, (by decide : 0 + 0 ≤ _), (by decide : 0 + 0 ≤ _)⟩)
  dsimp only [Pt.U, Pt.locs, Pt.cells, Pt.slots] at X1 l1 y1 z1 st1 hQ1
  subst l1 y1 z1
  obtain ⟨rfl, N1q, e1⟩ := hQ1
  have N1 := Fr.app N0 N1q
  replace X1 : Stand p l e ({ frames := 1, cells := 0, slots := 0, locals := 12 } : Room) s m _ below meth c T1 _ 0 0 := X1
  refine own_go (fun t_ k => st1.trans k) ?_
  show WP p e below _ (T1.setTop (mkF m 4 #[.val (.ref a1)] [(.int (14 : Int32))]))
  refine own_go (fun t_ k => XS.tswIn X1.here hx rfl (pc0 := 4) (pc' := 76) (o := 72) rfl (hb hby d1_4) rfl (by decide) rfl (by decide) (by decide) k) ?_
  show WP p e below _ (T1.setTop (mkF m 76 #[.val (.ref a1)] []))
  refine own_go (fun t_ k => XS.iconst X1.here hx rfl (hb hby d1_76) k) ?_
  show WP p e below _ (T1.setTop (mkF m 77 #[.val (.ref a1)] [(.int (1 : Int32))]))
  refine own_go (fun t_ k => XS.goto X1.here hx rfl (pc0 := 77) (pc' := 81) rfl (hb hby d1_77) (by decide) (by decide) k) ?_
  show WP p e below _ (T1.setTop (mkF m 81 #[.val (.ref a1)] [(.int (1 : Int32))]))
  exact own_retZ X1 hx Bd.notSynchronized Bd.returns (hb hby d1_81) (by decide) (show PQ h0 n0 (.int (1 : Int32)) _ _ _ from ⟨rfl, N1, e1⟩) (by decide) (by decide)
theorem ef_rm1_15 (m : MethodId) (x0 : Addr) : entryFrame m #[(.ref x0)] 1 = mkF m 0 #[.val (.ref x0)] [] := by first | (simp [entryFrame, mkF, argsToLocals, Value.category]; done) | rfl
set_option maxRecDepth 65536 in
set_option maxHeartbeats 40000000 in
theorem rm1_15 (l : Launch) (Z : State) (a0 : Array Value) (hw : ∀ d ∈ tables_1, d.before a0 Z = true) (ws : List Jvm.Cond) (a1 : Addr) (h0 : Heap) (n0 : Nat) (E_a : Exa Z h0 a1 "com/example/prefold/prefold/passes/Node$Operator") (F : Fld Z h0 a1 "java/lang/Enum" "ordinal" "I" (.int (15 : Int32))) :
    MetFree l (⟨"com/example/prefold/prefold/passes/Node$Operator", "truth", "()Z"⟩ : MethodName) (head1 (Jvm.Cond.code (⟨"com/example/prefold/prefold/passes/Node$Operator", "truth", "()Z"⟩ : MethodName) prog_80_method_4_code 1 (some .boolean) :: ws) ({ frames := 1, cells := 0, slots := 0, locals := 12 } : Room)) (fun a U => a = #[(.ref a1)] ∧ Z.Warmed39 U.vm ∧ U.heap = h0) (fun _ _ _ _ _ => True) (fun _ U o U' => ∃ v L, o = .returned v ∧ (PQ h0 n0 (.int (0 : Int32))) v U'.heap L ∧ FrameEnd U o U' L ({ frames := 1, cells := 0, slots := 0, locals := 12 } : Room).cells ({ frames := 1, cells := 0, slots := 0, locals := 12 } : Room).slots) := by
  refine MetFree.of_bodySF (plainFor_of_name pn_1) hisR ?_
  intro p e s m args below meth c s₁ Bd hml0 hP hK
  obtain ⟨rfl, hZ, hh⟩ := hP
  have hx := Bd.exec
  have hby := Bd.bytes
  have hml : c.maxLocals = 1 := hml0
  have hown : s.vm.findClass "com/example/prefold/prefold/passes/Node$Operator" = some m.cls := findClass_of_methodNamed Bd.named
  have hnm := (name_of_methodNamed Bd.named Bd.method).1
  have X0 : Stand p l e ({ frames := 1, cells := 0, slots := 0, locals := 12 } : Room) s m #[(.ref a1)] below meth c s₁ [] 0 0 := Stand.of_body Bd
  have e0 : s₁.heap = h0 := by rw [← hh, Bd.state]; rfl
  have N0 := Fr.nil n0
  show WP p e below (GG (PQ h0 n0 (.int (0 : Int32))) s ({ frames := 1, cells := 0, slots := 0, locals := 12 } : Room).cells ({ frames := 1, cells := 0, slots := 0, locals := 12 } : Room).slots) (s₁.setTop (entryFrame m #[(.ref a1)] 1))
  rw [ef_rm1_15 m a1]
  show WP p e below _ (s₁.setTop (mkF m 0 #[.val (.ref a1)] []))
  refine own_go (fun t_ k => XS.aloadN X0.here hx rfl (hb hby d1_0) rfl rfl k) ?_
  show WP p e below _ (s₁.setTop (mkF m 1 #[.val (.ref a1)] [(.ref a1)]))
  obtain ⟨cq1, kq1, q1a, q1b, q1c⟩ := isOf (T := s₁) hZ e0 E_a
  obtain ⟨_, _, ⟨T1, L1, k1, n1⟩, -, X1, ⟨Lc1, hQ1, l1, y1, z1⟩, st1⟩ := X0.virtualBackUp hx (x := (⟨"com/example/prefold/prefold/passes/Node$Operator", "ordinal", "()I"⟩ : MethodName)) (y := (⟨"java/lang/Enum", "ordinal", "()I"⟩ : MethodName)) (owner := "java/lang/Enum") hown (mvT hZ (hw _ (List.mem_of_getElem? (i := 42) rfl))) (mvT hZ (hw _ (List.mem_of_getElem? (i := 43) rfl))) (mvT hZ (hw _ (List.mem_of_getElem? (i := 44) rfl))) (by decide) (mvT hZ (hw _ (List.mem_of_getElem? (i := 46) rfl))) (mvT hZ (hw _ (List.mem_of_getElem? (i := 45) rfl))) (backOf (W := 0) (rm2 l Z a0 hw [] a1 (15 : Int32) h0 n0 F) hZ (hw _ (List.mem_of_getElem? (i := 48) rfl)) (hw _ (List.mem_of_getElem? (i := 47) rfl)) (by decide) (by decide)) q1a q1c (g := (mkF m 1 #[.val (.ref a1)] [(.ref a1)])) rfl (by rw [hml]; rfl) (Steps.refl _) (argsL := []) (rest := []) (lenOf pd_0 rfl) rfl (by show 2 * 0 + _ ≤ _; exact Nat.le_of_eq rfl) (hb hby d1_1) (fun _ _ => ⟨rfl, e0, (by decide : 0 + 0 ≤ _), (by decide : 0 + 0 ≤ _)⟩)
  dsimp only [Pt.U, Pt.locs, Pt.cells, Pt.slots] at X1 l1 y1 z1 st1 hQ1
  subst l1 y1 z1
  obtain ⟨rfl, N1q, e1⟩ := hQ1
  have N1 := Fr.app N0 N1q
  replace X1 : Stand p l e ({ frames := 1, cells := 0, slots := 0, locals := 12 } : Room) s m _ below meth c T1 _ 0 0 := X1
  refine own_go (fun t_ k => st1.trans k) ?_
  show WP p e below _ (T1.setTop (mkF m 4 #[.val (.ref a1)] [(.int (15 : Int32))]))
  refine own_go (fun t_ k => XS.tswOut X1.here hx rfl (pc0 := 4) (pc' := 80) rfl (hb hby d1_4) rfl (by decide) (by decide) (by decide) k) ?_
  show WP p e below _ (T1.setTop (mkF m 80 #[.val (.ref a1)] []))
  refine own_go (fun t_ k => XS.iconst X1.here hx rfl (hb hby d1_80) k) ?_
  show WP p e below _ (T1.setTop (mkF m 81 #[.val (.ref a1)] [(.int (0 : Int32))]))
  exact own_retZ X1 hx Bd.notSynchronized Bd.returns (hb hby d1_81) (by decide) (show PQ h0 n0 (.int (0 : Int32)) _ _ _ from ⟨rfl, N1, e1⟩) (by decide) (by decide)
theorem own_rem16 {p v : Int32} (h : ((p &&& (2147483647 : Int32)) % (16 : Int32)) = v) : v = 0 ∨ v = 1 ∨ v = 2 ∨ v = 3 ∨ v = 4 ∨ v = 5 ∨ v = 6 ∨ v = 7 ∨ v = 8 ∨ v = 9 ∨ v = 10 ∨ v = 11 ∨ v = 12 ∨ v = 13 ∨ v = 14 ∨ v = 15 := by
  have a1 := c_mask p 2147483647 31 (by decide) (by decide)
  have a2 := (c_irem (p &&& 2147483647) 16 16 rfl).1
  rw [h] at a2
  have b : 0 ≤ v.toInt ∧ v.toInt < 16 := by omega
  have hn : v.toInt.toNat < 16 := by omega
  have e : v = Int32.ofNat v.toInt.toNat := Int32.toInt_inj.mp (by rw [Int32.toInt_ofNat_small (by omega)]; omega)
  have : ∀ n : Fin 16, Int32.ofNat n.val = 0 ∨ Int32.ofNat n.val = 1 ∨ Int32.ofNat n.val = 2 ∨ Int32.ofNat n.val = 3 ∨ Int32.ofNat n.val = 4 ∨ Int32.ofNat n.val = 5 ∨ Int32.ofNat n.val = 6 ∨ Int32.ofNat n.val = 7 ∨ Int32.ofNat n.val = 8 ∨ Int32.ofNat n.val = 9 ∨ Int32.ofNat n.val = 10 ∨ Int32.ofNat n.val = 11 ∨ Int32.ofNat n.val = 12 ∨ Int32.ofNat n.val = 13 ∨ Int32.ofNat n.val = 14 ∨ Int32.ofNat n.val = 15 := by decide +kernel
  rw [e]
  exact this ⟨v.toInt.toNat, hn⟩
theorem pd_1 : parseMethodDescriptor "()Z" = some ⟨[], some .boolean⟩ := by decide +kernel
theorem pn_2 : plainName "com/example/prefold/prefold/passes/OperatorTruthPinLaw" = true := by first | (simp [plainName, overriddenIn]; done) | decide +kernel
theorem ef_rm0 (m : MethodId) (x0 : Int32) : entryFrame m #[(.int x0)] maxLocals = mkF m 0 #[.val (.int x0), .unset, .unset, .unset] [] := by first | (simp [entryFrame, mkF, argsToLocals, Value.category, maxLocals]; done) | rfl
set_option maxRecDepth 65536 in
set_option maxHeartbeats 40000000 in
theorem rm0 (l : Launch) (Z : State) (a0 : Array Value) (hw : ∀ d ∈ tables_1, d.before a0 Z = true) (ws : List Jvm.Cond) (p1 : Int32) (en0 : Addr) (en1 : Addr) (en2 : Addr) (en3 : Addr) (en4 : Addr) (en5 : Addr) (en6 : Addr) (en7 : Addr) (en8 : Addr) (en9 : Addr) (en10 : Addr) (en11 : Addr) (en12 : Addr) (en13 : Addr) (en14 : Addr) (en15 : Addr) (h0 : Heap) (n0 : Nat) (Z0 : n0 ≤ h0.size) (Sen0 : Sta Z h0 "com/example/prefold/prefold/passes/Node$Operator" "ABS" "Lcom/example/prefold/prefold/passes/Node$Operator;" (.ref en0)) (Een0 : Exa Z h0 en0 "com/example/prefold/prefold/passes/Node$Operator") (Fen0 : Fld Z h0 en0 "java/lang/Enum" "ordinal" "I" (.int (0 : Int32))) (Sen1 : Sta Z h0 "com/example/prefold/prefold/passes/Node$Operator" "NOT" "Lcom/example/prefold/prefold/passes/Node$Operator;" (.ref en1)) (Een1 : Exa Z h0 en1 "com/example/prefold/prefold/passes/Node$Operator") (Fen1 : Fld Z h0 en1 "java/lang/Enum" "ordinal" "I" (.int (1 : Int32))) (Sen2 : Sta Z h0 "com/example/prefold/prefold/passes/Node$Operator" "PLUS" "Lcom/example/prefold/prefold/passes/Node$Operator;" (.ref en2)) (Een2 : Exa Z h0 en2 "com/example/prefold/prefold/passes/Node$Operator") (Fen2 : Fld Z h0 en2 "java/lang/Enum" "ordinal" "I" (.int (2 : Int32))) (Sen3 : Sta Z h0 "com/example/prefold/prefold/passes/Node$Operator" "MINUS" "Lcom/example/prefold/prefold/passes/Node$Operator;" (.ref en3)) (Een3 : Exa Z h0 en3 "com/example/prefold/prefold/passes/Node$Operator") (Fen3 : Fld Z h0 en3 "java/lang/Enum" "ordinal" "I" (.int (3 : Int32))) (Sen4 : Sta Z h0 "com/example/prefold/prefold/passes/Node$Operator" "TIMES" "Lcom/example/prefold/prefold/passes/Node$Operator;" (.ref en4)) (Een4 : Exa Z h0 en4 "com/example/prefold/prefold/passes/Node$Operator") (Fen4 : Fld Z h0 en4 "java/lang/Enum" "ordinal" "I" (.int (4 : Int32))) (Sen5 : Sta Z h0 "com/example/prefold/prefold/passes/Node$Operator" "DIV" "Lcom/example/prefold/prefold/passes/Node$Operator;" (.ref en5)) (Een5 : Exa Z h0 en5 "com/example/prefold/prefold/passes/Node$Operator") (Fen5 : Fld Z h0 en5 "java/lang/Enum" "ordinal" "I" (.int (5 : Int32))) (Sen6 : Sta Z h0 "com/example/prefold/prefold/passes/Node$Operator" "MOD" "Lcom/example/prefold/prefold/passes/Node$Operator;" (.ref en6)) (Een6 : Exa Z h0 en6 "com/example/prefold/prefold/passes/Node$Operator") (Fen6 : Fld Z h0 en6 "java/lang/Enum" "ordinal" "I" (.int (6 : Int32))) (Sen7 : Sta Z h0 "com/example/prefold/prefold/passes/Node$Operator" "MIN" "Lcom/example/prefold/prefold/passes/Node$Operator;" (.ref en7)) (Een7 : Exa Z h0 en7 "com/example/prefold/prefold/passes/Node$Operator") (Fen7 : Fld Z h0 en7 "java/lang/Enum" "ordinal" "I" (.int (7 : Int32))) (Sen8 : Sta Z h0 "com/example/prefold/prefold/passes/Node$Operator" "MAX" "Lcom/example/prefold/prefold/passes/Node$Operator;" (.ref en8)) (Een8 : Exa Z h0 en8 "com/example/prefold/prefold/passes/Node$Operator") (Fen8 : Fld Z h0 en8 "java/lang/Enum" "ordinal" "I" (.int (8 : Int32))) (Sen9 : Sta Z h0 "com/example/prefold/prefold/passes/Node$Operator" "EQ" "Lcom/example/prefold/prefold/passes/Node$Operator;" (.ref en9)) (Een9 : Exa Z h0 en9 "com/example/prefold/prefold/passes/Node$Operator") (Fen9 : Fld Z h0 en9 "java/lang/Enum" "ordinal" "I" (.int (9 : Int32))) (Sen10 : Sta Z h0 "com/example/prefold/prefold/passes/Node$Operator" "NE" "Lcom/example/prefold/prefold/passes/Node$Operator;" (.ref en10)) (Een10 : Exa Z h0 en10 "com/example/prefold/prefold/passes/Node$Operator") (Fen10 : Fld Z h0 en10 "java/lang/Enum" "ordinal" "I" (.int (10 : Int32))) (Sen11 : Sta Z h0 "com/example/prefold/prefold/passes/Node$Operator" "LE" "Lcom/example/prefold/prefold/passes/Node$Operator;" (.ref en11)) (Een11 : Exa Z h0 en11 "com/example/prefold/prefold/passes/Node$Operator") (Fen11 : Fld Z h0 en11 "java/lang/Enum" "ordinal" "I" (.int (11 : Int32))) (Sen12 : Sta Z h0 "com/example/prefold/prefold/passes/Node$Operator" "LT" "Lcom/example/prefold/prefold/passes/Node$Operator;" (.ref en12)) (Een12 : Exa Z h0 en12 "com/example/prefold/prefold/passes/Node$Operator") (Fen12 : Fld Z h0 en12 "java/lang/Enum" "ordinal" "I" (.int (12 : Int32))) (Sen13 : Sta Z h0 "com/example/prefold/prefold/passes/Node$Operator" "AND" "Lcom/example/prefold/prefold/passes/Node$Operator;" (.ref en13)) (Een13 : Exa Z h0 en13 "com/example/prefold/prefold/passes/Node$Operator") (Fen13 : Fld Z h0 en13 "java/lang/Enum" "ordinal" "I" (.int (13 : Int32))) (Sen14 : Sta Z h0 "com/example/prefold/prefold/passes/Node$Operator" "OR" "Lcom/example/prefold/prefold/passes/Node$Operator;" (.ref en14)) (Een14 : Exa Z h0 en14 "com/example/prefold/prefold/passes/Node$Operator") (Fen14 : Fld Z h0 en14 "java/lang/Enum" "ordinal" "I" (.int (14 : Int32))) (Sen15 : Sta Z h0 "com/example/prefold/prefold/passes/Node$Operator" "ELEMENT" "Lcom/example/prefold/prefold/passes/Node$Operator;" (.ref en15)) (Een15 : Exa Z h0 en15 "com/example/prefold/prefold/passes/Node$Operator") (Fen15 : Fld Z h0 en15 "java/lang/Enum" "ordinal" "I" (.int (15 : Int32))) :
    MetFree l x (head1 (Jvm.Cond.code x code maxLocals ret :: ws) room_1) (fun a U => a = #[(.int p1)] ∧ Z.Warmed39 U.vm ∧ U.heap = h0) (fun _ _ _ _ _ => True) (fun _ U o U' => ∃ v L, o = .returned v ∧ (Q0 n0) v U'.heap L ∧ FrameEnd U o U' L room_1.cells room_1.slots) := by
  refine MetFree.of_bodySF (plainFor_of_name pn_2) hisR ?_
  intro p e s m args below meth c s₁ Bd hml0 hP hK
  obtain ⟨rfl, hZ, hh⟩ := hP
  have hx := Bd.exec
  have hby := Bd.bytes
  have hml : c.maxLocals = 4 := hml0
  have hown : s.vm.findClass "com/example/prefold/prefold/passes/OperatorTruthPinLaw" = some m.cls := findClass_of_methodNamed Bd.named
  have hnm := (name_of_methodNamed Bd.named Bd.method).1
  have X0 : Stand p l e room_1 s m #[(.int p1)] below meth c s₁ [] 0 0 := Stand.of_body Bd
  have e0 : s₁.heap = h0 := by rw [← hh, Bd.state]; rfl
  have N0 := Fr.nil n0
  show WP p e below (GG (Q0 n0) s room_1.cells room_1.slots) (s₁.setTop (entryFrame m #[(.int p1)] maxLocals))
  rw [ef_rm0 m p1]
  show WP p e below _ (s₁.setTop (mkF m 0 #[.val (.int p1), .unset, .unset, .unset] []))
  refine own_go (fun t_ k => XS.bipush X0.here hx rfl (hb hby at_0) k) ?_
  show WP p e below _ (s₁.setTop (mkF m 2 #[.val (.int p1), .unset, .unset, .unset] [(.int (16 : Int32))]))
  obtain ⟨T1, h1, k1, X1, e1, E1, A1, O1, st1⟩ := newR X0 hx hZ hown (hw _ (List.mem_of_getElem? (i := 0) rfl)) (hw _ (List.mem_of_getElem? (i := 1) rfl)) e0 (g := (mkF m 2 #[.val (.int p1), .unset, .unset, .unset] [(.int (16 : Int32))])) rfl (hb hby at_2) rfl (by decide) (cap := 16) (by decide) (by decide) (by decide) (by decide)
  obtain ⟨b1, g1⟩ : ∃ z, z = Array.size h0 := ⟨_, rfl⟩
  rw [← g1] at A1 st1
  refine own_go st1 ?_
  have g_b1 : n0 ≤ b1 := Nat.le_trans (Nat.le_trans Z0 (Keep.refl h0 []).1) (Nat.le_of_eq g1.symm)
  have sz_b1 : h0.size ≤ b1 := Nat.le_trans (Keep.refl h0 []).1 (Nat.le_of_eq g1.symm)
  have ne_en0_b1 : en0 ≠ b1 := Nat.ne_of_lt (Nat.lt_of_lt_of_le Een0.lt (Nat.le_of_eq g1.symm))
  have ne_en1_b1 : en1 ≠ b1 := Nat.ne_of_lt (Nat.lt_of_lt_of_le Een1.lt (Nat.le_of_eq g1.symm))
  have ne_en2_b1 : en2 ≠ b1 := Nat.ne_of_lt (Nat.lt_of_lt_of_le Een2.lt (Nat.le_of_eq g1.symm))
  have ne_en3_b1 : en3 ≠ b1 := Nat.ne_of_lt (Nat.lt_of_lt_of_le Een3.lt (Nat.le_of_eq g1.symm))
  have ne_en4_b1 : en4 ≠ b1 := Nat.ne_of_lt (Nat.lt_of_lt_of_le Een4.lt (Nat.le_of_eq g1.symm))
  have ne_en5_b1 : en5 ≠ b1 := Nat.ne_of_lt (Nat.lt_of_lt_of_le Een5.lt (Nat.le_of_eq g1.symm))
  have ne_en6_b1 : en6 ≠ b1 := Nat.ne_of_lt (Nat.lt_of_lt_of_le Een6.lt (Nat.le_of_eq g1.symm))
  have ne_en7_b1 : en7 ≠ b1 := Nat.ne_of_lt (Nat.lt_of_lt_of_le Een7.lt (Nat.le_of_eq g1.symm))
  have ne_en8_b1 : en8 ≠ b1 := Nat.ne_of_lt (Nat.lt_of_lt_of_le Een8.lt (Nat.le_of_eq g1.symm))
  have ne_en9_b1 : en9 ≠ b1 := Nat.ne_of_lt (Nat.lt_of_lt_of_le Een9.lt (Nat.le_of_eq g1.symm))
  have ne_en10_b1 : en10 ≠ b1 := Nat.ne_of_lt (Nat.lt_of_lt_of_le Een10.lt (Nat.le_of_eq g1.symm))
  have ne_en11_b1 : en11 ≠ b1 := Nat.ne_of_lt (Nat.lt_of_lt_of_le Een11.lt (Nat.le_of_eq g1.symm))
  have ne_en12_b1 : en12 ≠ b1 := Nat.ne_of_lt (Nat.lt_of_lt_of_le Een12.lt (Nat.le_of_eq g1.symm))
  have ne_en13_b1 : en13 ≠ b1 := Nat.ne_of_lt (Nat.lt_of_lt_of_le Een13.lt (Nat.le_of_eq g1.symm))
  have ne_en14_b1 : en14 ≠ b1 := Nat.ne_of_lt (Nat.lt_of_lt_of_le Een14.lt (Nat.le_of_eq g1.symm))
  have ne_en15_b1 : en15 ≠ b1 := Nat.ne_of_lt (Nat.lt_of_lt_of_le Een15.lt (Nat.le_of_eq g1.symm))
  have K1 : Keep h0 h1 [] := (Keep.refl h0 []).ext E1
  have V1 : Arv Z h1 b1 k1 (.object "com/example/prefold/prefold/passes/Node$Operator") (16 : Int32) [.null, .null, .null, .null, .null, .null, .null, .null, .null, .null, .null, .null, .null, .null, .null, .null] .null := (Arv.new A1 (by decide)).pad (pad_rep [] Value.null 16)
  show WP p e below _ (T1.setTop (mkF m 5 #[.val (.int p1), .unset, .unset, .unset] [(.ref b1)]))
  refine own_go (fun t_ k => XS.dup X1.here hx rfl (hb hby at_5) rfl rfl k) ?_
  show WP p e below _ (T1.setTop (mkF m 6 #[.val (.int p1), .unset, .unset, .unset] [(.ref b1), (.ref b1)]))
  refine own_go (fun t_ k => XS.iconst X1.here hx rfl (hb hby at_6) k) ?_
  show WP p e below _ (T1.setTop (mkF m 7 #[.val (.int p1), .unset, .unset, .unset] [(.int (0 : Int32)), (.ref b1), (.ref b1)]))
  obtain ⟨T2, X2, e2, st2⟩ := getS2 X1 hx hZ hown (host := "") (Or.inl (hw _ (List.mem_of_getElem? (i := 2) rfl))) Via.refl e1 (Sen0.ext E1) (g := (mkF m 7 #[.val (.int p1), .unset, .unset, .unset] [(.int (0 : Int32)), (.ref b1), (.ref b1)])) rfl (hb hby at_7)
  refine own_go st2 ?_
  show WP p e below _ (T2.setTop (mkF m 10 #[.val (.int p1), .unset, .unset, .unset] [(.ref en0), (.int (0 : Int32)), (.ref b1), (.ref b1)]))
  obtain ⟨cl3, Ar3, q3, S3, M3, H3, G3⟩ := id (V1)
  have hin3 : ¬ ((0 : Int32) < 0 ∨ cl3.slots.size ≤ ((0 : Int32)).toNatClampNeg) := inb_of S3 (⟨by decide, by decide⟩)
  obtain ⟨T4, h4, X4, e4, W4, st4⟩ := stR X2 hx hZ e2 Ar3 (j := (0 : Int32)) hin3 rfl (Sto.ofV Ar3 q3 O1 (Ins.self (Een0.ext E1))) (g := (mkF m 10 #[.val (.int p1), .unset, .unset, .unset] [(.ref en0), (.int (0 : Int32)), (.ref b1), (.ref b1)])) rfl rfl (hb hby at_10)
  refine own_go st4 ?_
  have V4 : Arv Z h4 b1 k1 (.object "com/example/prefold/prefold/passes/Node$Operator") (16 : Int32) [(.ref en0), .null, .null, .null, .null, .null, .null, .null, .null, .null, .null, .null, .null, .null, .null, .null] .null := Arv.set Ar3 q3 S3 M3 H3 G3 rfl W4 0 rfl (Nat.le_of_ble_eq_true rfl)
  have N4 := Fr.snoc X4 N0 g_b1
  have K4 : Keep h0 h4 [] := K1.wr W4 (Or.inr sz_b1)
  show WP p e below _ (T4.setTop (mkF m 11 #[.val (.int p1), .unset, .unset, .unset] [(.ref b1)]))
  refine own_go (fun t_ k => XS.dup X4.here hx rfl (hb hby at_11) rfl rfl k) ?_
  show WP p e below _ (T4.setTop (mkF m 12 #[.val (.int p1), .unset, .unset, .unset] [(.ref b1), (.ref b1)]))
  refine own_go (fun t_ k => XS.iconst X4.here hx rfl (hb hby at_12) k) ?_
  show WP p e below _ (T4.setTop (mkF m 13 #[.val (.int p1), .unset, .unset, .unset] [(.int (1 : Int32)), (.ref b1), (.ref b1)]))
  obtain ⟨T5, X5, e5, st5⟩ := getS2 X4 hx hZ hown (host := "") (Or.inl (hw _ (List.mem_of_getElem? (i := 6) rfl))) Via.refl e4 ((Sen1.ext E1).wr W4) (g := (mkF m 13 #[.val (.int p1), .unset, .unset, .unset] [(.int (1 : Int32)), (.ref b1), (.ref b1)])) rfl (hb hby at_13)
  refine own_go st5 ?_
  show WP p e below _ (T5.setTop (mkF m 16 #[.val (.int p1), .unset, .unset, .unset] [(.ref en1), (.int (1 : Int32)), (.ref b1), (.ref b1)]))
  obtain ⟨cl6, Ar6, q6, S6, M6, H6, G6⟩ := id (V4)
  have hin6 : ¬ ((1 : Int32) < 0 ∨ cl6.slots.size ≤ ((1 : Int32)).toNatClampNeg) := inb_of S6 (⟨by decide, by decide⟩)
  obtain ⟨T7, h7, X7, e7, W7, st7⟩ := stR X5 hx hZ e5 Ar6 (j := (1 : Int32)) hin6 rfl (Sto.ofV Ar6 q6 O1 (Ins.self ((Een1.ext E1).wr W4))) (g := (mkF m 16 #[.val (.int p1), .unset, .unset, .unset] [(.ref en1), (.int (1 : Int32)), (.ref b1), (.ref b1)])) rfl rfl (hb hby at_16)
  refine own_go st7 ?_
  have V7 : Arv Z h7 b1 k1 (.object "com/example/prefold/prefold/passes/Node$Operator") (16 : Int32) [(.ref en0), (.ref en1), .null, .null, .null, .null, .null, .null, .null, .null, .null, .null, .null, .null, .null, .null] .null := Arv.set Ar6 q6 S6 M6 H6 G6 rfl W7 1 rfl (Nat.le_of_ble_eq_true rfl)
  have N7 := Fr.snoc X7 N4 g_b1
  have K7 : Keep h0 h7 [] := K4.wr W7 (Or.inr sz_b1)
  show WP p e below _ (T7.setTop (mkF m 17 #[.val (.int p1), .unset, .unset, .unset] [(.ref b1)]))
  refine own_go (fun t_ k => XS.dup X7.here hx rfl (hb hby at_17) rfl rfl k) ?_
  show WP p e below _ (T7.setTop (mkF m 18 #[.val (.int p1), .unset, .unset, .unset] [(.ref b1), (.ref b1)]))
  refine own_go (fun t_ k => XS.iconst X7.here hx rfl (hb hby at_18) k) ?_
  show WP p e below _ (T7.setTop (mkF m 19 #[.val (.int p1), .unset, .unset, .unset] [(.int (2 : Int32)), (.ref b1), (.ref b1)]))
  obtain ⟨T8, X8, e8, st8⟩ := getS2 X7 hx hZ hown (host := "") (Or.inl (hw _ (List.mem_of_getElem? (i := 8) rfl))) Via.refl e7 (((Sen2.ext E1).wr W4).wr W7) (g := (mkF m 19 #[.val (.int p1), .unset, .unset, .unset] [(.int (2 : Int32)), (.ref b1), (.ref b1)])) rfl (hb hby at_19)
  refine own_go st8 ?_
  show WP p e below _ (T8.setTop (mkF m 22 #[.val (.int p1), .unset, .unset, .unset] [(.ref en2), (.int (2 : Int32)), (.ref b1), (.ref b1)]))
  obtain ⟨cl9, Ar9, q9, S9, M9, H9, G9⟩ := id (V7)
  have hin9 : ¬ ((2 : Int32) < 0 ∨ cl9.slots.size ≤ ((2 : Int32)).toNatClampNeg) := inb_of S9 (⟨by decide, by decide⟩)
  obtain ⟨T10, h10, X10, e10, W10, st10⟩ := stR X8 hx hZ e8 Ar9 (j := (2 : Int32)) hin9 rfl (Sto.ofV Ar9 q9 O1 (Ins.self (((Een2.ext E1).wr W4).wr W7))) (g := (mkF m 22 #[.val (.int p1), .unset, .unset, .unset] [(.ref en2), (.int (2 : Int32)), (.ref b1), (.ref b1)])) rfl rfl (hb hby at_22)
  refine own_go st10 ?_
  have V10 : Arv Z h10 b1 k1 (.object "com/example/prefold/prefold/passes/Node$Operator") (16 : Int32) [(.ref en0), (.ref en1), (.ref en2), .null, .null, .null, .null, .null, .null, .null, .null, .null, .null, .null, .null, .null] .null := Arv.set Ar9 q9 S9 M9 H9 G9 rfl W10 2 rfl (Nat.le_of_ble_eq_true rfl)
  have N10 := Fr.snoc X10 N7 g_b1
  have K10 : Keep h0 h10 [] := K7.wr W10 (Or.inr sz_b1)
  show WP p e below _ (T10.setTop (mkF m 23 #[.val (.int p1), .unset, .unset, .unset] [(.ref b1)]))
  refine own_go (fun t_ k => XS.dup X10.here hx rfl (hb hby at_23) rfl rfl k) ?_
  show WP p e below _ (T10.setTop (mkF m 24 #[.val (.int p1), .unset, .unset, .unset] [(.ref b1), (.ref b1)]))
  refine own_go (fun t_ k => XS.iconst X10.here hx rfl (hb hby at_24) k) ?_
  show WP p e below _ (T10.setTop (mkF m 25 #[.val (.int p1), .unset, .unset, .unset] [(.int (3 : Int32)), (.ref b1), (.ref b1)]))
  obtain ⟨T11, X11, e11, st11⟩ := getS2 X10 hx hZ hown (host := "") (Or.inl (hw _ (List.mem_of_getElem? (i := 10) rfl))) Via.refl e10 ((((Sen3.ext E1).wr W4).wr W7).wr W10) (g := (mkF m 25 #[.val (.int p1), .unset, .unset, .unset] [(.int (3 : Int32)), (.ref b1), (.ref b1)])) rfl (hb hby at_25)
  refine own_go st11 ?_
  show WP p e below _ (T11.setTop (mkF m 28 #[.val (.int p1), .unset, .unset, .unset] [(.ref en3), (.int (3 : Int32)), (.ref b1), (.ref b1)]))
  obtain ⟨cl12, Ar12, q12, S12, M12, H12, G12⟩ := id (V10)
  have hin12 : ¬ ((3 : Int32) < 0 ∨ cl12.slots.size ≤ ((3 : Int32)).toNatClampNeg) := inb_of S12 (⟨by decide, by decide⟩)
  obtain ⟨T13, h13, X13, e13, W13, st13⟩ := stR X11 hx hZ e11 Ar12 (j := (3 : Int32)) hin12 rfl (Sto.ofV Ar12 q12 O1 (Ins.self ((((Een3.ext E1).wr W4).wr W7).wr W10))) (g := (mkF m 28 #[.val (.int p1), .unset, .unset, .unset] [(.ref en3), (.int (3 : Int32)), (.ref b1), (.ref b1)])) rfl rfl (hb hby at_28)
  refine own_go st13 ?_
  have V13 : Arv Z h13 b1 k1 (.object "com/example/prefold/prefold/passes/Node$Operator") (16 : Int32) [(.ref en0), (.ref en1), (.ref en2), (.ref en3), .null, .null, .null, .null, .null, .null, .null, .null, .null, .null, .null, .null] .null := Arv.set Ar12 q12 S12 M12 H12 G12 rfl W13 3 rfl (Nat.le_of_ble_eq_true rfl)
  have N13 := Fr.snoc X13 N10 g_b1
  have K13 : Keep h0 h13 [] := K10.wr W13 (Or.inr sz_b1)
  show WP p e below _ (T13.setTop (mkF m 29 #[.val (.int p1), .unset, .unset, .unset] [(.ref b1)]))
  refine own_go (fun t_ k => XS.dup X13.here hx rfl (hb hby at_29) rfl rfl k) ?_
  show WP p e below _ (T13.setTop (mkF m 30 #[.val (.int p1), .unset, .unset, .unset] [(.ref b1), (.ref b1)]))
  refine own_go (fun t_ k => XS.iconst X13.here hx rfl (hb hby at_30) k) ?_
  show WP p e below _ (T13.setTop (mkF m 31 #[.val (.int p1), .unset, .unset, .unset] [(.int (4 : Int32)), (.ref b1), (.ref b1)]))
  obtain ⟨T14, X14, e14, st14⟩ := getS2 X13 hx hZ hown (host := "") (Or.inl (hw _ (List.mem_of_getElem? (i := 12) rfl))) Via.refl e13 (((((Sen4.ext E1).wr W4).wr W7).wr W10).wr W13) (g := (mkF m 31 #[.val (.int p1), .unset, .unset, .unset] [(.int (4 : Int32)), (.ref b1), (.ref b1)])) rfl (hb hby at_31)
  refine own_go st14 ?_
  show WP p e below _ (T14.setTop (mkF m 34 #[.val (.int p1), .unset, .unset, .unset] [(.ref en4), (.int (4 : Int32)), (.ref b1), (.ref b1)]))
  obtain ⟨cl15, Ar15, q15, S15, M15, H15, G15⟩ := id (V13)
  have hin15 : ¬ ((4 : Int32) < 0 ∨ cl15.slots.size ≤ ((4 : Int32)).toNatClampNeg) := inb_of S15 (⟨by decide, by decide⟩)
  obtain ⟨T16, h16, X16, e16, W16, st16⟩ := stR X14 hx hZ e14 Ar15 (j := (4 : Int32)) hin15 rfl (Sto.ofV Ar15 q15 O1 (Ins.self (((((Een4.ext E1).wr W4).wr W7).wr W10).wr W13))) (g := (mkF m 34 #[.val (.int p1), .unset, .unset, .unset] [(.ref en4), (.int (4 : Int32)), (.ref b1), (.ref b1)])) rfl rfl (hb hby at_34)
  refine own_go st16 ?_
  have V16 : Arv Z h16 b1 k1 (.object "com/example/prefold/prefold/passes/Node$Operator") (16 : Int32) [(.ref en0), (.ref en1), (.ref en2), (.ref en3), (.ref en4), .null, .null, .null, .null, .null, .null, .null, .null, .null, .null, .null] .null := Arv.set Ar15 q15 S15 M15 H15 G15 rfl W16 4 rfl (Nat.le_of_ble_eq_true rfl)
  have N16 := Fr.snoc X16 N13 g_b1
  have K16 : Keep h0 h16 [] := K13.wr W16 (Or.inr sz_b1)
  show WP p e below _ (T16.setTop (mkF m 35 #[.val (.int p1), .unset, .unset, .unset] [(.ref b1)]))
  refine own_go (fun t_ k => XS.dup X16.here hx rfl (hb hby at_35) rfl rfl k) ?_
  show WP p e below _ (T16.setTop (mkF m 36 #[.val (.int p1), .unset, .unset, .unset] [(.ref b1), (.ref b1)]))
  refine own_go (fun t_ k => XS.iconst X16.here hx rfl (hb hby at_36) k) ?_
  show WP p e below _ (T16.setTop (mkF m 37 #[.val (.int p1), .unset, .unset, .unset] [(.int (5 : Int32)), (.ref b1), (.ref b1)]))
  obtain ⟨T17, X17, e17, st17⟩ := getS2 X16 hx hZ hown (host := "") (Or.inl (hw _ (List.mem_of_getElem? (i := 14) rfl))) Via.refl e16 ((((((Sen5.ext E1).wr W4).wr W7).wr W10).wr W13).wr W16) (g := (mkF m 37 #[.val (.int p1), .unset, .unset, .unset] [(.int (5 : Int32)), (.ref b1), (.ref b1)])) rfl (hb hby at_37)
  refine own_go st17 ?_
  show WP p e below _ (T17.setTop (mkF m 40 #[.val (.int p1), .unset, .unset, .unset] [(.ref en5), (.int (5 : Int32)), (.ref b1), (.ref b1)]))
  obtain ⟨cl18, Ar18, q18, S18, M18, H18, G18⟩ := id (V16)
  have hin18 : ¬ ((5 : Int32) < 0 ∨ cl18.slots.size ≤ ((5 : Int32)).toNatClampNeg) := inb_of S18 (⟨by decide, by decide⟩)
  obtain ⟨T19, h19, X19, e19, W19, st19⟩ := stR X17 hx hZ e17 Ar18 (j := (5 : Int32)) hin18 rfl (Sto.ofV Ar18 q18 O1 (Ins.self ((((((Een5.ext E1).wr W4).wr W7).wr W10).wr W13).wr W16))) (g := (mkF m 40 #[.val (.int p1), .unset, .unset, .unset] [(.ref en5), (.int (5 : Int32)), (.ref b1), (.ref b1)])) rfl rfl (hb hby at_40)
  refine own_go st19 ?_
  have V19 : Arv Z h19 b1 k1 (.object "com/example/prefold/prefold/passes/Node$Operator") (16 : Int32) [(.ref en0), (.ref en1), (.ref en2), (.ref en3), (.ref en4), (.ref en5), .null, .null, .null, .null, .null, .null, .null, .null, .null, .null] .null := Arv.set Ar18 q18 S18 M18 H18 G18 rfl W19 5 rfl (Nat.le_of_ble_eq_true rfl)
  have N19 := Fr.snoc X19 N16 g_b1
  have K19 : Keep h0 h19 [] := K16.wr W19 (Or.inr sz_b1)
  show WP p e below _ (T19.setTop (mkF m 41 #[.val (.int p1), .unset, .unset, .unset] [(.ref b1)]))
  refine own_go (fun t_ k => XS.dup X19.here hx rfl (hb hby at_41) rfl rfl k) ?_
  show WP p e below _ (T19.setTop (mkF m 42 #[.val (.int p1), .unset, .unset, .unset] [(.ref b1), (.ref b1)]))
  refine own_go (fun t_ k => XS.bipush X19.here hx rfl (hb hby at_42) k) ?_
  show WP p e below _ (T19.setTop (mkF m 44 #[.val (.int p1), .unset, .unset, .unset] [(.int (6 : Int32)), (.ref b1), (.ref b1)]))
  obtain ⟨T20, X20, e20, st20⟩ := getS2 X19 hx hZ hown (host := "") (Or.inl (hw _ (List.mem_of_getElem? (i := 16) rfl))) Via.refl e19 (((((((Sen6.ext E1).wr W4).wr W7).wr W10).wr W13).wr W16).wr W19) (g := (mkF m 44 #[.val (.int p1), .unset, .unset, .unset] [(.int (6 : Int32)), (.ref b1), (.ref b1)])) rfl (hb hby at_44)
  refine own_go st20 ?_
  show WP p e below _ (T20.setTop (mkF m 47 #[.val (.int p1), .unset, .unset, .unset] [(.ref en6), (.int (6 : Int32)), (.ref b1), (.ref b1)]))
  obtain ⟨cl21, Ar21, q21, S21, M21, H21, G21⟩ := id (V19)
  have hin21 : ¬ ((6 : Int32) < 0 ∨ cl21.slots.size ≤ ((6 : Int32)).toNatClampNeg) := inb_of S21 (⟨by decide, by decide⟩)
  obtain ⟨T22, h22, X22, e22, W22, st22⟩ := stR X20 hx hZ e20 Ar21 (j := (6 : Int32)) hin21 rfl (Sto.ofV Ar21 q21 O1 (Ins.self (((((((Een6.ext E1).wr W4).wr W7).wr W10).wr W13).wr W16).wr W19))) (g := (mkF m 47 #[.val (.int p1), .unset, .unset, .unset] [(.ref en6), (.int (6 : Int32)), (.ref b1), (.ref b1)])) rfl rfl (hb hby at_47)
  refine own_go st22 ?_
  have V22 : Arv Z h22 b1 k1 (.object "com/example/prefold/prefold/passes/Node$Operator") (16 : Int32) [(.ref en0), (.ref en1), (.ref en2), (.ref en3), (.ref en4), (.ref en5), (.ref en6), .null, .null, .null, .null, .null, .null, .null, .null, .null] .null := Arv.set Ar21 q21 S21 M21 H21 G21 rfl W22 6 rfl (Nat.le_of_ble_eq_true rfl)
  have N22 := Fr.snoc X22 N19 g_b1
  have K22 : Keep h0 h22 [] := K19.wr W22 (Or.inr sz_b1)
  show WP p e below _ (T22.setTop (mkF m 48 #[.val (.int p1), .unset, .unset, .unset] [(.ref b1)]))
  refine own_go (fun t_ k => XS.dup X22.here hx rfl (hb hby at_48) rfl rfl k) ?_
  show WP p e below _ (T22.setTop (mkF m 49 #[.val (.int p1), .unset, .unset, .unset] [(.ref b1), (.ref b1)]))
  refine own_go (fun t_ k => XS.bipush X22.here hx rfl (hb hby at_49) k) ?_
  show WP p e below _ (T22.setTop (mkF m 51 #[.val (.int p1), .unset, .unset, .unset] [(.int (7 : Int32)), (.ref b1), (.ref b1)]))
  obtain ⟨T23, X23, e23, st23⟩ := getS2 X22 hx hZ hown (host := "") (Or.inl (hw _ (List.mem_of_getElem? (i := 18) rfl))) Via.refl e22 ((((((((Sen7.ext E1).wr W4).wr W7).wr W10).wr W13).wr W16).wr W19).wr W22) (g := (mkF m 51 #[.val (.int p1), .unset, .unset, .unset] [(.int (7 : Int32)), (.ref b1), (.ref b1)])) rfl (hb hby at_51)
  refine own_go st23 ?_
  show WP p e below _ (T23.setTop (mkF m 54 #[.val (.int p1), .unset, .unset, .unset] [(.ref en7), (.int (7 : Int32)), (.ref b1), (.ref b1)]))
  obtain ⟨cl24, Ar24, q24, S24, M24, H24, G24⟩ := id (V22)
  have hin24 : ¬ ((7 : Int32) < 0 ∨ cl24.slots.size ≤ ((7 : Int32)).toNatClampNeg) := inb_of S24 (⟨by decide, by decide⟩)
  obtain ⟨T25, h25, X25, e25, W25, st25⟩ := stR X23 hx hZ e23 Ar24 (j := (7 : Int32)) hin24 rfl (Sto.ofV Ar24 q24 O1 (Ins.self ((((((((Een7.ext E1).wr W4).wr W7).wr W10).wr W13).wr W16).wr W19).wr W22))) (g := (mkF m 54 #[.val (.int p1), .unset, .unset, .unset] [(.ref en7), (.int (7 : Int32)), (.ref b1), (.ref b1)])) rfl rfl (hb hby at_54)
  refine own_go st25 ?_
  have V25 : Arv Z h25 b1 k1 (.object "com/example/prefold/prefold/passes/Node$Operator") (16 : Int32) [(.ref en0), (.ref en1), (.ref en2), (.ref en3), (.ref en4), (.ref en5), (.ref en6), (.ref en7), .null, .null, .null, .null, .null, .null, .null, .null] .null := Arv.set Ar24 q24 S24 M24 H24 G24 rfl W25 7 rfl (Nat.le_of_ble_eq_true rfl)
  have N25 := Fr.snoc X25 N22 g_b1
  have K25 : Keep h0 h25 [] := K22.wr W25 (Or.inr sz_b1)
  show WP p e below _ (T25.setTop (mkF m 55 #[.val (.int p1), .unset, .unset, .unset] [(.ref b1)]))
  refine own_go (fun t_ k => XS.dup X25.here hx rfl (hb hby at_55) rfl rfl k) ?_
  show WP p e below _ (T25.setTop (mkF m 56 #[.val (.int p1), .unset, .unset, .unset] [(.ref b1), (.ref b1)]))
  refine own_go (fun t_ k => XS.bipush X25.here hx rfl (hb hby at_56) k) ?_
  show WP p e below _ (T25.setTop (mkF m 58 #[.val (.int p1), .unset, .unset, .unset] [(.int (8 : Int32)), (.ref b1), (.ref b1)]))
  obtain ⟨T26, X26, e26, st26⟩ := getS2 X25 hx hZ hown (host := "") (Or.inl (hw _ (List.mem_of_getElem? (i := 20) rfl))) Via.refl e25 (((((((((Sen8.ext E1).wr W4).wr W7).wr W10).wr W13).wr W16).wr W19).wr W22).wr W25) (g := (mkF m 58 #[.val (.int p1), .unset, .unset, .unset] [(.int (8 : Int32)), (.ref b1), (.ref b1)])) rfl (hb hby at_58)
  refine own_go st26 ?_
  show WP p e below _ (T26.setTop (mkF m 61 #[.val (.int p1), .unset, .unset, .unset] [(.ref en8), (.int (8 : Int32)), (.ref b1), (.ref b1)]))
  obtain ⟨cl27, Ar27, q27, S27, M27, H27, G27⟩ := id (V25)
  have hin27 : ¬ ((8 : Int32) < 0 ∨ cl27.slots.size ≤ ((8 : Int32)).toNatClampNeg) := inb_of S27 (⟨by decide, by decide⟩)
  obtain ⟨T28, h28, X28, e28, W28, st28⟩ := stR X26 hx hZ e26 Ar27 (j := (8 : Int32)) hin27 rfl (Sto.ofV Ar27 q27 O1 (Ins.self (((((((((Een8.ext E1).wr W4).wr W7).wr W10).wr W13).wr W16).wr W19).wr W22).wr W25))) (g := (mkF m 61 #[.val (.int p1), .unset, .unset, .unset] [(.ref en8), (.int (8 : Int32)), (.ref b1), (.ref b1)])) rfl rfl (hb hby at_61)
  refine own_go st28 ?_
  have V28 : Arv Z h28 b1 k1 (.object "com/example/prefold/prefold/passes/Node$Operator") (16 : Int32) [(.ref en0), (.ref en1), (.ref en2), (.ref en3), (.ref en4), (.ref en5), (.ref en6), (.ref en7), (.ref en8), .null, .null, .null, .null, .null, .null, .null] .null := Arv.set Ar27 q27 S27 M27 H27 G27 rfl W28 8 rfl (Nat.le_of_ble_eq_true rfl)
  have N28 := Fr.snoc X28 N25 g_b1
  have K28 : Keep h0 h28 [] := K25.wr W28 (Or.inr sz_b1)
  show WP p e below _ (T28.setTop (mkF m 62 #[.val (.int p1), .unset, .unset, .unset] [(.ref b1)]))
  refine own_go (fun t_ k => XS.dup X28.here hx rfl (hb hby at_62) rfl rfl k) ?_
  show WP p e below _ (T28.setTop (mkF m 63 #[.val (.int p1), .unset, .unset, .unset] [(.ref b1), (.ref b1)]))
  refine own_go (fun t_ k => XS.bipush X28.here hx rfl (hb hby at_63) k) ?_
  show WP p e below _ (T28.setTop (mkF m 65 #[.val (.int p1), .unset, .unset, .unset] [(.int (9 : Int32)), (.ref b1), (.ref b1)]))
  obtain ⟨T29, X29, e29, st29⟩ := getS2 X28 hx hZ hown (host := "") (Or.inl (hw _ (List.mem_of_getElem? (i := 22) rfl))) Via.refl e28 ((((((((((Sen9.ext E1).wr W4).wr W7).wr W10).wr W13).wr W16).wr W19).wr W22).wr W25).wr W28) (g := (mkF m 65 #[.val (.int p1), .unset, .unset, .unset] [(.int (9 : Int32)), (.ref b1), (.ref b1)])) rfl (hb hby at_65)
  refine own_go st29 ?_
  show WP p e below _ (T29.setTop (mkF m 68 #[.val (.int p1), .unset, .unset, .unset] [(.ref en9), (.int (9 : Int32)), (.ref b1), (.ref b1)]))
  obtain ⟨cl30, Ar30, q30, S30, M30, H30, G30⟩ := id (V28)
  have hin30 : ¬ ((9 : Int32) < 0 ∨ cl30.slots.size ≤ ((9 : Int32)).toNatClampNeg) := inb_of S30 (⟨by decide, by decide⟩)
  obtain ⟨T31, h31, X31, e31, W31, st31⟩ := stR X29 hx hZ e29 Ar30 (j := (9 : Int32)) hin30 rfl (Sto.ofV Ar30 q30 O1 (Ins.self ((((((((((Een9.ext E1).wr W4).wr W7).wr W10).wr W13).wr W16).wr W19).wr W22).wr W25).wr W28))) (g := (mkF m 68 #[.val (.int p1), .unset, .unset, .unset] [(.ref en9), (.int (9 : Int32)), (.ref b1), (.ref b1)])) rfl rfl (hb hby at_68)
  refine own_go st31 ?_
  have V31 : Arv Z h31 b1 k1 (.object "com/example/prefold/prefold/passes/Node$Operator") (16 : Int32) [(.ref en0), (.ref en1), (.ref en2), (.ref en3), (.ref en4), (.ref en5), (.ref en6), (.ref en7), (.ref en8), (.ref en9), .null, .null, .null, .null, .null, .null] .null := Arv.set Ar30 q30 S30 M30 H30 G30 rfl W31 9 rfl (Nat.le_of_ble_eq_true rfl)
  have N31 := Fr.snoc X31 N28 g_b1
  have K31 : Keep h0 h31 [] := K28.wr W31 (Or.inr sz_b1)
  show WP p e below _ (T31.setTop (mkF m 69 #[.val (.int p1), .unset, .unset, .unset] [(.ref b1)]))
  refine own_go (fun t_ k => XS.dup X31.here hx rfl (hb hby at_69) rfl rfl k) ?_
  show WP p e below _ (T31.setTop (mkF m 70 #[.val (.int p1), .unset, .unset, .unset] [(.ref b1), (.ref b1)]))
  refine own_go (fun t_ k => XS.bipush X31.here hx rfl (hb hby at_70) k) ?_
  show WP p e below _ (T31.setTop (mkF m 72 #[.val (.int p1), .unset, .unset, .unset] [(.int (10 : Int32)), (.ref b1), (.ref b1)]))
  obtain ⟨T32, X32, e32, st32⟩ := getS2 X31 hx hZ hown (host := "") (Or.inl (hw _ (List.mem_of_getElem? (i := 24) rfl))) Via.refl e31 (((((((((((Sen10.ext E1).wr W4).wr W7).wr W10).wr W13).wr W16).wr W19).wr W22).wr W25).wr W28).wr W31) (g := (mkF m 72 #[.val (.int p1), .unset, .unset, .unset] [(.int (10 : Int32)), (.ref b1), (.ref b1)])) rfl (hb hby at_72)
  refine own_go st32 ?_
  show WP p e below _ (T32.setTop (mkF m 75 #[.val (.int p1), .unset, .unset, .unset] [(.ref en10), (.int (10 : Int32)), (.ref b1), (.ref b1)]))
  obtain ⟨cl33, Ar33, q33, S33, M33, H33, G33⟩ := id (V31)
  have hin33 : ¬ ((10 : Int32) < 0 ∨ cl33.slots.size ≤ ((10 : Int32)).toNatClampNeg) := inb_of S33 (⟨by decide, by decide⟩)
  obtain ⟨T34, h34, X34, e34, W34, st34⟩ := stR X32 hx hZ e32 Ar33 (j := (10 : Int32)) hin33 rfl (Sto.ofV Ar33 q33 O1 (Ins.self (((((((((((Een10.ext E1).wr W4).wr W7).wr W10).wr W13).wr W16).wr W19).wr W22).wr W25).wr W28).wr W31))) (g := (mkF m 75 #[.val (.int p1), .unset, .unset, .unset] [(.ref en10), (.int (10 : Int32)), (.ref b1), (.ref b1)])) rfl rfl (hb hby at_75)
  refine own_go st34 ?_
  have V34 : Arv Z h34 b1 k1 (.object "com/example/prefold/prefold/passes/Node$Operator") (16 : Int32) [(.ref en0), (.ref en1), (.ref en2), (.ref en3), (.ref en4), (.ref en5), (.ref en6), (.ref en7), (.ref en8), (.ref en9), (.ref en10), .null, .null, .null, .null, .null] .null := Arv.set Ar33 q33 S33 M33 H33 G33 rfl W34 10 rfl (Nat.le_of_ble_eq_true rfl)
  have N34 := Fr.snoc X34 N31 g_b1
  have K34 : Keep h0 h34 [] := K31.wr W34 (Or.inr sz_b1)
  show WP p e below _ (T34.setTop (mkF m 76 #[.val (.int p1), .unset, .unset, .unset] [(.ref b1)]))
  refine own_go (fun t_ k => XS.dup X34.here hx rfl (hb hby at_76) rfl rfl k) ?_
  show WP p e below _ (T34.setTop (mkF m 77 #[.val (.int p1), .unset, .unset, .unset] [(.ref b1), (.ref b1)]))
  refine own_go (fun t_ k => XS.bipush X34.here hx rfl (hb hby at_77) k) ?_
  show WP p e below _ (T34.setTop (mkF m 79 #[.val (.int p1), .unset, .unset, .unset] [(.int (11 : Int32)), (.ref b1), (.ref b1)]))
  obtain ⟨T35, X35, e35, st35⟩ := getS2 X34 hx hZ hown (host := "") (Or.inl (hw _ (List.mem_of_getElem? (i := 26) rfl))) Via.refl e34 ((((((((((((Sen11.ext E1).wr W4).wr W7).wr W10).wr W13).wr W16).wr W19).wr W22).wr W25).wr W28).wr W31).wr W34) (g := (mkF m 79 #[.val (.int p1), .unset, .unset, .unset] [(.int (11 : Int32)), (.ref b1), (.ref b1)])) rfl (hb hby at_79)
  refine own_go st35 ?_
  show WP p e below _ (T35.setTop (mkF m 82 #[.val (.int p1), .unset, .unset, .unset] [(.ref en11), (.int (11 : Int32)), (.ref b1), (.ref b1)]))
  obtain ⟨cl36, Ar36, q36, S36, M36, H36, G36⟩ := id (V34)
  have hin36 : ¬ ((11 : Int32) < 0 ∨ cl36.slots.size ≤ ((11 : Int32)).toNatClampNeg) := inb_of S36 (⟨by decide, by decide⟩)
  obtain ⟨T37, h37, X37, e37, W37, st37⟩ := stR X35 hx hZ e35 Ar36 (j := (11 : Int32)) hin36 rfl (Sto.ofV Ar36 q36 O1 (Ins.self ((((((((((((Een11.ext E1).wr W4).wr W7).wr W10).wr W13).wr W16).wr W19).wr W22).wr W25).wr W28).wr W31).wr W34))) (g := (mkF m 82 #[.val (.int p1), .unset, .unset, .unset] [(.ref en11), (.int (11 : Int32)), (.ref b1), (.ref b1)])) rfl rfl (hb hby at_82)
  refine own_go st37 ?_
  have V37 : Arv Z h37 b1 k1 (.object "com/example/prefold/prefold/passes/Node$Operator") (16 : Int32) [(.ref en0), (.ref en1), (.ref en2), (.ref en3), (.ref en4), (.ref en5), (.ref en6), (.ref en7), (.ref en8), (.ref en9), (.ref en10), (.ref en11), .null, .null, .null, .null] .null := Arv.set Ar36 q36 S36 M36 H36 G36 rfl W37 11 rfl (Nat.le_of_ble_eq_true rfl)
  have N37 := Fr.snoc X37 N34 g_b1
  have K37 : Keep h0 h37 [] := K34.wr W37 (Or.inr sz_b1)
  show WP p e below _ (T37.setTop (mkF m 83 #[.val (.int p1), .unset, .unset, .unset] [(.ref b1)]))
  refine own_go (fun t_ k => XS.dup X37.here hx rfl (hb hby at_83) rfl rfl k) ?_
  show WP p e below _ (T37.setTop (mkF m 84 #[.val (.int p1), .unset, .unset, .unset] [(.ref b1), (.ref b1)]))
  refine own_go (fun t_ k => XS.bipush X37.here hx rfl (hb hby at_84) k) ?_
  show WP p e below _ (T37.setTop (mkF m 86 #[.val (.int p1), .unset, .unset, .unset] [(.int (12 : Int32)), (.ref b1), (.ref b1)]))
  obtain ⟨T38, X38, e38, st38⟩ := getS2 X37 hx hZ hown (host := "") (Or.inl (hw _ (List.mem_of_getElem? (i := 28) rfl))) Via.refl e37 (((((((((((((Sen12.ext E1).wr W4).wr W7).wr W10).wr W13).wr W16).wr W19).wr W22).wr W25).wr W28).wr W31).wr W34).wr W37) (g := (mkF m 86 #[.val (.int p1), .unset, .unset, .unset] [(.int (12 : Int32)), (.ref b1), (.ref b1)])) rfl (hb hby at_86)
  refine own_go st38 ?_
  show WP p e below _ (T38.setTop (mkF m 89 #[.val (.int p1), .unset, .unset, .unset] [(.ref en12), (.int (12 : Int32)), (.ref b1), (.ref b1)]))
  obtain ⟨cl39, Ar39, q39, S39, M39, H39, G39⟩ := id (V37)
  have hin39 : ¬ ((12 : Int32) < 0 ∨ cl39.slots.size ≤ ((12 : Int32)).toNatClampNeg) := inb_of S39 (⟨by decide, by decide⟩)
  obtain ⟨T40, h40, X40, e40, W40, st40⟩ := stR X38 hx hZ e38 Ar39 (j := (12 : Int32)) hin39 rfl (Sto.ofV Ar39 q39 O1 (Ins.self (((((((((((((Een12.ext E1).wr W4).wr W7).wr W10).wr W13).wr W16).wr W19).wr W22).wr W25).wr W28).wr W31).wr W34).wr W37))) (g := (mkF m 89 #[.val (.int p1), .unset, .unset, .unset] [(.ref en12), (.int (12 : Int32)), (.ref b1), (.ref b1)])) rfl rfl (hb hby at_89)
  refine own_go st40 ?_
  have V40 : Arv Z h40 b1 k1 (.object "com/example/prefold/prefold/passes/Node$Operator") (16 : Int32) [(.ref en0), (.ref en1), (.ref en2), (.ref en3), (.ref en4), (.ref en5), (.ref en6), (.ref en7), (.ref en8), (.ref en9), (.ref en10), (.ref en11), (.ref en12), .null, .null, .null] .null := Arv.set Ar39 q39 S39 M39 H39 G39 rfl W40 12 rfl (Nat.le_of_ble_eq_true rfl)
  have N40 := Fr.snoc X40 N37 g_b1
  have K40 : Keep h0 h40 [] := K37.wr W40 (Or.inr sz_b1)
  show WP p e below _ (T40.setTop (mkF m 90 #[.val (.int p1), .unset, .unset, .unset] [(.ref b1)]))
  refine own_go (fun t_ k => XS.dup X40.here hx rfl (hb hby at_90) rfl rfl k) ?_
  show WP p e below _ (T40.setTop (mkF m 91 #[.val (.int p1), .unset, .unset, .unset] [(.ref b1), (.ref b1)]))
  refine own_go (fun t_ k => XS.bipush X40.here hx rfl (hb hby at_91) k) ?_
  show WP p e below _ (T40.setTop (mkF m 93 #[.val (.int p1), .unset, .unset, .unset] [(.int (13 : Int32)), (.ref b1), (.ref b1)]))
  obtain ⟨T41, X41, e41, st41⟩ := getS2 X40 hx hZ hown (host := "") (Or.inl (hw _ (List.mem_of_getElem? (i := 30) rfl))) Via.refl e40 ((((((((((((((Sen13.ext E1).wr W4).wr W7).wr W10).wr W13).wr W16).wr W19).wr W22).wr W25).wr W28).wr W31).wr W34).wr W37).wr W40) (g := (mkF m 93 #[.val (.int p1), .unset, .unset, .unset] [(.int (13 : Int32)), (.ref b1), (.ref b1)])) rfl (hb hby at_93)
  refine own_go st41 ?_
  show WP p e below _ (T41.setTop (mkF m 96 #[.val (.int p1), .unset, .unset, .unset] [(.ref en13), (.int (13 : Int32)), (.ref b1), (.ref b1)]))
  obtain ⟨cl42, Ar42, q42, S42, M42, H42, G42⟩ := id (V40)
  have hin42 : ¬ ((13 : Int32) < 0 ∨ cl42.slots.size ≤ ((13 : Int32)).toNatClampNeg) := inb_of S42 (⟨by decide, by decide⟩)
  obtain ⟨T43, h43, X43, e43, W43, st43⟩ := stR X41 hx hZ e41 Ar42 (j := (13 : Int32)) hin42 rfl (Sto.ofV Ar42 q42 O1 (Ins.self ((((((((((((((Een13.ext E1).wr W4).wr W7).wr W10).wr W13).wr W16).wr W19).wr W22).wr W25).wr W28).wr W31).wr W34).wr W37).wr W40))) (g := (mkF m 96 #[.val (.int p1), .unset, .unset, .unset] [(.ref en13), (.int (13 : Int32)), (.ref b1), (.ref b1)])) rfl rfl (hb hby at_96)
  refine own_go st43 ?_
  have V43 : Arv Z h43 b1 k1 (.object "com/example/prefold/prefold/passes/Node$Operator") (16 : Int32) [(.ref en0), (.ref en1), (.ref en2), (.ref en3), (.ref en4), (.ref en5), (.ref en6), (.ref en7), (.ref en8), (.ref en9), (.ref en10), (.ref en11), (.ref en12), (.ref en13), .null, .null] .null := Arv.set Ar42 q42 S42 M42 H42 G42 rfl W43 13 rfl (Nat.le_of_ble_eq_true rfl)
  have N43 := Fr.snoc X43 N40 g_b1
  have K43 : Keep h0 h43 [] := K40.wr W43 (Or.inr sz_b1)
  show WP p e below _ (T43.setTop (mkF m 97 #[.val (.int p1), .unset, .unset, .unset] [(.ref b1)]))
  refine own_go (fun t_ k => XS.dup X43.here hx rfl (hb hby at_97) rfl rfl k) ?_
  show WP p e below _ (T43.setTop (mkF m 98 #[.val (.int p1), .unset, .unset, .unset] [(.ref b1), (.ref b1)]))
  refine own_go (fun t_ k => XS.bipush X43.here hx rfl (hb hby at_98) k) ?_
  show WP p e below _ (T43.setTop (mkF m 100 #[.val (.int p1), .unset, .unset, .unset] [(.int (14 : Int32)), (.ref b1), (.ref b1)]))
  obtain ⟨T44, X44, e44, st44⟩ := getS2 X43 hx hZ hown (host := "") (Or.inl (hw _ (List.mem_of_getElem? (i := 32) rfl))) Via.refl e43 (((((((((((((((Sen14.ext E1).wr W4).wr W7).wr W10).wr W13).wr W16).wr W19).wr W22).wr W25).wr W28).wr W31).wr W34).wr W37).wr W40).wr W43) (g := (mkF m 100 #[.val (.int p1), .unset, .unset, .unset] [(.int (14 : Int32)), (.ref b1), (.ref b1)])) rfl (hb hby at_100)
  refine own_go st44 ?_
  show WP p e below _ (T44.setTop (mkF m 103 #[.val (.int p1), .unset, .unset, .unset] [(.ref en14), (.int (14 : Int32)), (.ref b1), (.ref b1)]))
  obtain ⟨cl45, Ar45, q45, S45, M45, H45, G45⟩ := id (V43)
  have hin45 : ¬ ((14 : Int32) < 0 ∨ cl45.slots.size ≤ ((14 : Int32)).toNatClampNeg) := inb_of S45 (⟨by decide, by decide⟩)
  obtain ⟨T46, h46, X46, e46, W46, st46⟩ := stR X44 hx hZ e44 Ar45 (j := (14 : Int32)) hin45 rfl (Sto.ofV Ar45 q45 O1 (Ins.self (((((((((((((((Een14.ext E1).wr W4).wr W7).wr W10).wr W13).wr W16).wr W19).wr W22).wr W25).wr W28).wr W31).wr W34).wr W37).wr W40).wr W43))) (g := (mkF m 103 #[.val (.int p1), .unset, .unset, .unset] [(.ref en14), (.int (14 : Int32)), (.ref b1), (.ref b1)])) rfl rfl (hb hby at_103)
  refine own_go st46 ?_
  have V46 : Arv Z h46 b1 k1 (.object "com/example/prefold/prefold/passes/Node$Operator") (16 : Int32) [(.ref en0), (.ref en1), (.ref en2), (.ref en3), (.ref en4), (.ref en5), (.ref en6), (.ref en7), (.ref en8), (.ref en9), (.ref en10), (.ref en11), (.ref en12), (.ref en13), (.ref en14), .null] .null := Arv.set Ar45 q45 S45 M45 H45 G45 rfl W46 14 rfl (Nat.le_of_ble_eq_true rfl)
  have N46 := Fr.snoc X46 N43 g_b1
  have K46 : Keep h0 h46 [] := K43.wr W46 (Or.inr sz_b1)
  show WP p e below _ (T46.setTop (mkF m 104 #[.val (.int p1), .unset, .unset, .unset] [(.ref b1)]))
  refine own_go (fun t_ k => XS.dup X46.here hx rfl (hb hby at_104) rfl rfl k) ?_
  show WP p e below _ (T46.setTop (mkF m 105 #[.val (.int p1), .unset, .unset, .unset] [(.ref b1), (.ref b1)]))
  refine own_go (fun t_ k => XS.bipush X46.here hx rfl (hb hby at_105) k) ?_
  show WP p e below _ (T46.setTop (mkF m 107 #[.val (.int p1), .unset, .unset, .unset] [(.int (15 : Int32)), (.ref b1), (.ref b1)]))
  obtain ⟨T47, X47, e47, st47⟩ := getS2 X46 hx hZ hown (host := "") (Or.inl (hw _ (List.mem_of_getElem? (i := 34) rfl))) Via.refl e46 ((((((((((((((((Sen15.ext E1).wr W4).wr W7).wr W10).wr W13).wr W16).wr W19).wr W22).wr W25).wr W28).wr W31).wr W34).wr W37).wr W40).wr W43).wr W46) (g := (mkF m 107 #[.val (.int p1), .unset, .unset, .unset] [(.int (15 : Int32)), (.ref b1), (.ref b1)])) rfl (hb hby at_107)
  refine own_go st47 ?_
  show WP p e below _ (T47.setTop (mkF m 110 #[.val (.int p1), .unset, .unset, .unset] [(.ref en15), (.int (15 : Int32)), (.ref b1), (.ref b1)]))
  obtain ⟨cl48, Ar48, q48, S48, M48, H48, G48⟩ := id (V46)
  have hin48 : ¬ ((15 : Int32) < 0 ∨ cl48.slots.size ≤ ((15 : Int32)).toNatClampNeg) := inb_of S48 (⟨by decide, by decide⟩)
  obtain ⟨T49, h49, X49, e49, W49, st49⟩ := stR X47 hx hZ e47 Ar48 (j := (15 : Int32)) hin48 rfl (Sto.ofV Ar48 q48 O1 (Ins.self ((((((((((((((((Een15.ext E1).wr W4).wr W7).wr W10).wr W13).wr W16).wr W19).wr W22).wr W25).wr W28).wr W31).wr W34).wr W37).wr W40).wr W43).wr W46))) (g := (mkF m 110 #[.val (.int p1), .unset, .unset, .unset] [(.ref en15), (.int (15 : Int32)), (.ref b1), (.ref b1)])) rfl rfl (hb hby at_110)
  refine own_go st49 ?_
  have V49 : Arv Z h49 b1 k1 (.object "com/example/prefold/prefold/passes/Node$Operator") (16 : Int32) [(.ref en0), (.ref en1), (.ref en2), (.ref en3), (.ref en4), (.ref en5), (.ref en6), (.ref en7), (.ref en8), (.ref en9), (.ref en10), (.ref en11), (.ref en12), (.ref en13), (.ref en14), (.ref en15)] .null := Arv.set Ar48 q48 S48 M48 H48 G48 rfl W49 15 rfl (Nat.le_of_ble_eq_true rfl)
  have N49 := Fr.snoc X49 N46 g_b1
  have K49 : Keep h0 h49 [] := K46.wr W49 (Or.inr sz_b1)
  show WP p e below _ (T49.setTop (mkF m 111 #[.val (.int p1), .unset, .unset, .unset] [(.ref b1)]))
  refine own_go (fun t_ k => XS.astoreN X49.here hx rfl (hb hby at_111) rfl rfl (l' := #[.val (.int p1), .val (.ref b1), .unset, .unset]) rfl k) ?_
  show WP p e below _ (T49.setTop (mkF m 112 #[.val (.int p1), .val (.ref b1), .unset, .unset] []))
  refine own_go (fun t_ k => XS.iloadN X49.here hx rfl (hb hby at_112) rfl k) ?_
  show WP p e below _ (T49.setTop (mkF m 113 #[.val (.int p1), .val (.ref b1), .unset, .unset] [(.int p1)]))
  refine own_go (fun t_ k => X49.ldcInt hx hown (mvT hZ (hw _ (List.mem_of_getElem? (i := 36) rfl))) (g := (mkF m 113 #[.val (.int p1), .val (.ref b1), .unset, .unset] [(.int p1)])) rfl (hb hby at_113) _ k) ?_
  show WP p e below _ (T49.setTop (mkF m 115 #[.val (.int p1), .val (.ref b1), .unset, .unset] [(.int (2147483647 : Int32)), (.int p1)]))
  refine own_go (fun t_ k => XS.iand X49.here hx rfl (hb hby at_115) rfl k) ?_
  show WP p e below _ (T49.setTop (mkF m 116 #[.val (.int p1), .val (.ref b1), .unset, .unset] [(.int (p1 &&& (2147483647 : Int32)))]))
  refine own_go (fun t_ k => XS.bipush X49.here hx rfl (hb hby at_116) k) ?_
  show WP p e below _ (T49.setTop (mkF m 118 #[.val (.int p1), .val (.ref b1), .unset, .unset] [(.int (16 : Int32)), (.int (p1 &&& (2147483647 : Int32)))]))
  refine own_go (fun t_ k => iremM X49 hx rfl (hb hby at_118) rfl (by decide) k) ?_
  show WP p e below _ (T49.setTop (mkF m 119 #[.val (.int p1), .val (.ref b1), .unset, .unset] [(.int ((p1 &&& (2147483647 : Int32)) % (16 : Int32)))]))
  refine own_go (fun t_ k => XS.istoreN X49.here hx rfl (hb hby at_119) rfl (l' := #[.val (.int p1), .val (.ref b1), .val (.int ((p1 &&& (2147483647 : Int32)) % (16 : Int32))), .unset]) rfl k) ?_
  show WP p e below _ (T49.setTop (mkF m 120 #[.val (.int p1), .val (.ref b1), .val (.int ((p1 &&& (2147483647 : Int32)) % (16 : Int32))), .unset] []))
  generalize he50 : ((p1 &&& (2147483647 : Int32)) % (16 : Int32)) = vi50
  rcases own_rem16 he50 with hs51 | hs51 | hs51 | hs51 | hs51 | hs51 | hs51 | hs51 | hs51 | hs51 | hs51 | hs51 | hs51 | hs51 | hs51 | hs51
  · subst hs51
    show WP p e below _ (T49.setTop (mkF m 120 #[.val (.int p1), .val (.ref b1), .val (.int (0 : Int32)), .unset] []))
    refine own_go (fun t_ k => XS.iloadN X49.here hx rfl (hb hby at_120) rfl k) ?_
    show WP p e below _ (T49.setTop (mkF m 121 #[.val (.int p1), .val (.ref b1), .val (.int (0 : Int32)), .unset] [(.int (0 : Int32))]))
    refine own_go (fun t_ k => XS.iconst X49.here hx rfl (hb hby at_121) k) ?_
    show WP p e below _ (T49.setTop (mkF m 122 #[.val (.int p1), .val (.ref b1), .val (.int (0 : Int32)), .unset] [(.int (1 : Int32)), (.int (0 : Int32))]))
    have hc122_52 : ¬ ((0 : Int32) = (1 : Int32)) := by decide
    refine own_go (fun t_ k => XS.icmpNo X49.here hx rfl (hb hby at_122) rfl (feq hc122_52).1 k) ?_
    show WP p e below _ (T49.setTop (mkF m 125 #[.val (.int p1), .val (.ref b1), .val (.int (0 : Int32)), .unset] []))
    refine own_go (fun t_ k => XS.iloadN X49.here hx rfl (hb hby at_125) rfl k) ?_
    show WP p e below _ (T49.setTop (mkF m 126 #[.val (.int p1), .val (.ref b1), .val (.int (0 : Int32)), .unset] [(.int (0 : Int32))]))
    refine own_go (fun t_ k => XS.bipush X49.here hx rfl (hb hby at_126) k) ?_
    show WP p e below _ (T49.setTop (mkF m 128 #[.val (.int p1), .val (.ref b1), .val (.int (0 : Int32)), .unset] [(.int (9 : Int32)), (.int (0 : Int32))]))
    have hc128_53 : ((0 : Int32) < (9 : Int32)) := by decide
    refine own_go (fun t_ k => XS.icmpYes X49.here hx rfl (pc0 := 128) (pc' := 141) rfl (hb hby at_128) rfl (tlt hc128_53).1 (by decide) (by decide) k) ?_
    show WP p e below _ (T49.setTop (mkF m 141 #[.val (.int p1), .val (.ref b1), .val (.int (0 : Int32)), .unset] []))
    refine own_go (fun t_ k => XS.iconst X49.here hx rfl (hb hby at_141) k) ?_
    show WP p e below _ (T49.setTop (mkF m 142 #[.val (.int p1), .val (.ref b1), .val (.int (0 : Int32)), .unset] [(.int (0 : Int32))]))
    refine own_go (fun t_ k => XS.istoreN X49.here hx rfl (hb hby at_142) rfl (l' := #[.val (.int p1), .val (.ref b1), .val (.int (0 : Int32)), .val (.int (0 : Int32))]) rfl k) ?_
    show WP p e below _ (T49.setTop (mkF m 143 #[.val (.int p1), .val (.ref b1), .val (.int (0 : Int32)), .val (.int (0 : Int32))] []))
    refine own_go (fun t_ k => XS.aloadN X49.here hx rfl (hb hby at_143) rfl rfl k) ?_
    show WP p e below _ (T49.setTop (mkF m 144 #[.val (.int p1), .val (.ref b1), .val (.int (0 : Int32)), .val (.int (0 : Int32))] [(.ref b1)]))
    refine own_go (fun t_ k => XS.iloadN X49.here hx rfl (hb hby at_144) rfl k) ?_
    show WP p e below _ (T49.setTop (mkF m 145 #[.val (.int p1), .val (.ref b1), .val (.int (0 : Int32)), .val (.int (0 : Int32))] [(.int (0 : Int32)), (.ref b1)]))
    obtain ⟨cl54, Ar54, -, S54, M54, H54, -⟩ := id (V49)
    have hin54 : ¬ ((0 : Int32) < 0 ∨ cl54.slots.size ≤ ((0 : Int32)).toNatClampNeg) := inb_of S54 (⟨by decide, by decide⟩)
    refine own_go (fun t_ k => X49.aaload hx (j := (0 : Int32)) (v := (.ref en0)) (by rw [e49]; exact Ar54.1) (State.isArrayOf_alike hZ.alike Ar54.2.1) rfl Ar54.2.2 hin54 (H54.at hin54 rfl) (g := (mkF m 145 #[.val (.int p1), .val (.ref b1), .val (.int (0 : Int32)), .val (.int (0 : Int32))] [(.int (0 : Int32)), (.ref b1)])) rfl rfl (hb hby at_145) _ k) ?_
    show WP p e below _ (T49.setTop (mkF m 146 #[.val (.int p1), .val (.ref b1), .val (.int (0 : Int32)), .val (.int (0 : Int32))] [(.ref en0)]))
    obtain ⟨cq55, kq55, q55a, q55b, q55c⟩ := isOf (T := T49) hZ e49 (((((((((((((((((Een0.ext E1).wr W4).wr W7).wr W10).wr W13).wr W16).wr W19).wr W22).wr W25).wr W28).wr W31).wr W34).wr W37).wr W40).wr W43).wr W46).wr W49)
    obtain ⟨_, _, ⟨T55, L55, k55, n55⟩, -, X55, ⟨Lc55, hQ55, l55, y55, z55⟩, st55⟩ := X49.virtualBack hx (y := (⟨"com/example/prefold/prefold/passes/Node$Operator", "truth", "()Z"⟩ : MethodName)) (z := (⟨"com/example/prefold/prefold/passes/Node$Operator", "truth", "()Z"⟩ : MethodName)) hown (mvT hZ (hw _ (List.mem_of_getElem? (i := 37) rfl))) (mvT hZ (hw _ (List.mem_of_getElem? (i := 38) rfl))) (notFace_of_selects (args := #[]) (mvT hZ (hw _ (List.mem_of_getElem? (i := 40) rfl)))) (mvT hZ (hw _ (List.mem_of_getElem? (i := 40) rfl))) (mvT hZ (hw _ (List.mem_of_getElem? (i := 39) rfl))) (by decide) (backOf (W := 0) (rm1_0 l Z a0 hw [] en0 h49 n0 (((((((((((((((((Een0.ext E1).wr W4).wr W7).wr W10).wr W13).wr W16).wr W19).wr W22).wr W25).wr W28).wr W31).wr W34).wr W37).wr W40).wr W43).wr W46).wr W49) (((((((((((((((((Fen0.ext E1).other W4 (Or.inl ne_en0_b1)).other W7 (Or.inl ne_en0_b1)).other W10 (Or.inl ne_en0_b1)).other W13 (Or.inl ne_en0_b1)).other W16 (Or.inl ne_en0_b1)).other W19 (Or.inl ne_en0_b1)).other W22 (Or.inl ne_en0_b1)).other W25 (Or.inl ne_en0_b1)).other W28 (Or.inl ne_en0_b1)).other W31 (Or.inl ne_en0_b1)).other W34 (Or.inl ne_en0_b1)).other W37 (Or.inl ne_en0_b1)).other W40 (Or.inl ne_en0_b1)).other W43 (Or.inl ne_en0_b1)).other W46 (Or.inl ne_en0_b1)).other W49 (Or.inl ne_en0_b1))) hZ (hw _ (List.mem_of_getElem? (i := 41) rfl)) (hw _ (List.mem_of_getElem? (i := 3) rfl)) (by decide) (by decide)) q55a q55c (g := (mkF m 146 #[.val (.int p1), .val (.ref b1), .val (.int (0 : Int32)), .val (.int (0 : Int32))] [(.ref en0)])) rfl (by rw [hml]; rfl) (Steps.refl _) (argsL := []) (rest := []) (lenOf pd_1 rfl) rfl (by show 2 * 0 + _ ≤ _; exact Nat.le_of_eq rfl) (hb hby at_146) (fun _ _ => ⟨rfl, e49, (by decide : 1 + 0 ≤ _), (by decide : 16 + 0 ≤ _)⟩)
    dsimp only [Pt.U, Pt.locs, Pt.cells, Pt.slots] at X55 l55 y55 z55 st55 hQ55
    subst l55 y55 z55
    obtain ⟨rfl, N55q, e55⟩ := hQ55
    have N55 := Fr.app N49 N55q
    replace X55 : Stand p l e room_1 s m _ below meth c T55 _ 1 16 := X55
    refine own_go (fun t_ k => st55.trans k) ?_
    show WP p e below _ (T55.setTop (mkF m 149 #[.val (.int p1), .val (.ref b1), .val (.int (0 : Int32)), .val (.int (0 : Int32))] [(.int (0 : Int32))]))
    refine own_go (fun t_ k => XS.iloadN X55.here hx rfl (hb hby at_149) rfl k) ?_
    show WP p e below _ (T55.setTop (mkF m 150 #[.val (.int p1), .val (.ref b1), .val (.int (0 : Int32)), .val (.int (0 : Int32))] [(.int (0 : Int32)), (.int (0 : Int32))]))
    have hc150_56 : ((0 : Int32) = (0 : Int32)) := by decide
    refine own_go (fun t_ k => XS.icmpNo X55.here hx rfl (hb hby at_150) rfl (teq hc150_56).2 k) ?_
    show WP p e below _ (T55.setTop (mkF m 153 #[.val (.int p1), .val (.ref b1), .val (.int (0 : Int32)), .val (.int (0 : Int32))] []))
    refine own_go (fun t_ k => XS.iconst X55.here hx rfl (hb hby at_153) k) ?_
    show WP p e below _ (T55.setTop (mkF m 154 #[.val (.int p1), .val (.ref b1), .val (.int (0 : Int32)), .val (.int (0 : Int32))] [(.int (1 : Int32))]))
    refine own_go (fun t_ k => XS.goto X55.here hx rfl (pc0 := 154) (pc' := 158) rfl (hb hby at_154) (by decide) (by decide) k) ?_
    show WP p e below _ (T55.setTop (mkF m 158 #[.val (.int p1), .val (.ref b1), .val (.int (0 : Int32)), .val (.int (0 : Int32))] [(.int (1 : Int32))]))
    exact own_retZ X55 hx Bd.notSynchronized Bd.returns (hb hby at_158) (by decide) (show Q0 n0 _ _ _ from ⟨rfl, N55⟩) (by decide) (by decide)
  · subst hs51
    show WP p e below _ (T49.setTop (mkF m 120 #[.val (.int p1), .val (.ref b1), .val (.int (1 : Int32)), .unset] []))
    refine own_go (fun t_ k => XS.iloadN X49.here hx rfl (hb hby at_120) rfl k) ?_
    show WP p e below _ (T49.setTop (mkF m 121 #[.val (.int p1), .val (.ref b1), .val (.int (1 : Int32)), .unset] [(.int (1 : Int32))]))
    refine own_go (fun t_ k => XS.iconst X49.here hx rfl (hb hby at_121) k) ?_
    show WP p e below _ (T49.setTop (mkF m 122 #[.val (.int p1), .val (.ref b1), .val (.int (1 : Int32)), .unset] [(.int (1 : Int32)), (.int (1 : Int32))]))
    have hc122_57 : ((1 : Int32) = (1 : Int32)) := by decide
    refine own_go (fun t_ k => XS.icmpYes X49.here hx rfl (pc0 := 122) (pc' := 137) rfl (hb hby at_122) rfl (teq hc122_57).1 (by decide) (by decide) k) ?_
    show WP p e below _ (T49.setTop (mkF m 137 #[.val (.int p1), .val (.ref b1), .val (.int (1 : Int32)), .unset] []))
    refine own_go (fun t_ k => XS.iconst X49.here hx rfl (hb hby at_137) k) ?_
    show WP p e below _ (T49.setTop (mkF m 138 #[.val (.int p1), .val (.ref b1), .val (.int (1 : Int32)), .unset] [(.int (1 : Int32))]))
    refine own_go (fun t_ k => XS.goto X49.here hx rfl (pc0 := 138) (pc' := 142) rfl (hb hby at_138) (by decide) (by decide) k) ?_
    show WP p e below _ (T49.setTop (mkF m 142 #[.val (.int p1), .val (.ref b1), .val (.int (1 : Int32)), .unset] [(.int (1 : Int32))]))
    refine own_go (fun t_ k => XS.istoreN X49.here hx rfl (hb hby at_142) rfl (l' := #[.val (.int p1), .val (.ref b1), .val (.int (1 : Int32)), .val (.int (1 : Int32))]) rfl k) ?_
    show WP p e below _ (T49.setTop (mkF m 143 #[.val (.int p1), .val (.ref b1), .val (.int (1 : Int32)), .val (.int (1 : Int32))] []))
    refine own_go (fun t_ k => XS.aloadN X49.here hx rfl (hb hby at_143) rfl rfl k) ?_
    show WP p e below _ (T49.setTop (mkF m 144 #[.val (.int p1), .val (.ref b1), .val (.int (1 : Int32)), .val (.int (1 : Int32))] [(.ref b1)]))
    refine own_go (fun t_ k => XS.iloadN X49.here hx rfl (hb hby at_144) rfl k) ?_
    show WP p e below _ (T49.setTop (mkF m 145 #[.val (.int p1), .val (.ref b1), .val (.int (1 : Int32)), .val (.int (1 : Int32))] [(.int (1 : Int32)), (.ref b1)]))
    obtain ⟨cl58, Ar58, -, S58, M58, H58, -⟩ := id (V49)
    have hin58 : ¬ ((1 : Int32) < 0 ∨ cl58.slots.size ≤ ((1 : Int32)).toNatClampNeg) := inb_of S58 (⟨by decide, by decide⟩)
    refine own_go (fun t_ k => X49.aaload hx (j := (1 : Int32)) (v := (.ref en1)) (by rw [e49]; exact Ar58.1) (State.isArrayOf_alike hZ.alike Ar58.2.1) rfl Ar58.2.2 hin58 (H58.at hin58 rfl) (g := (mkF m 145 #[.val (.int p1), .val (.ref b1), .val (.int (1 : Int32)), .val (.int (1 : Int32))] [(.int (1 : Int32)), (.ref b1)])) rfl rfl (hb hby at_145) _ k) ?_
    show WP p e below _ (T49.setTop (mkF m 146 #[.val (.int p1), .val (.ref b1), .val (.int (1 : Int32)), .val (.int (1 : Int32))] [(.ref en1)]))
    obtain ⟨cq59, kq59, q59a, q59b, q59c⟩ := isOf (T := T49) hZ e49 (((((((((((((((((Een1.ext E1).wr W4).wr W7).wr W10).wr W13).wr W16).wr W19).wr W22).wr W25).wr W28).wr W31).wr W34).wr W37).wr W40).wr W43).wr W46).wr W49)
    obtain ⟨_, _, ⟨T59, L59, k59, n59⟩, -, X59, ⟨Lc59, hQ59, l59, y59, z59⟩, st59⟩ := X49.virtualBack hx (y := (⟨"com/example/prefold/prefold/passes/Node$Operator", "truth", "()Z"⟩ : MethodName)) (z := (⟨"com/example/prefold/prefold/passes/Node$Operator", "truth", "()Z"⟩ : MethodName)) hown (mvT hZ (hw _ (List.mem_of_getElem? (i := 37) rfl))) (mvT hZ (hw _ (List.mem_of_getElem? (i := 38) rfl))) (notFace_of_selects (args := #[]) (mvT hZ (hw _ (List.mem_of_getElem? (i := 40) rfl)))) (mvT hZ (hw _ (List.mem_of_getElem? (i := 40) rfl))) (mvT hZ (hw _ (List.mem_of_getElem? (i := 39) rfl))) (by decide) (backOf (W := 0) (rm1_1 l Z a0 hw [] en1 h49 n0 (((((((((((((((((Een1.ext E1).wr W4).wr W7).wr W10).wr W13).wr W16).wr W19).wr W22).wr W25).wr W28).wr W31).wr W34).wr W37).wr W40).wr W43).wr W46).wr W49) (((((((((((((((((Fen1.ext E1).other W4 (Or.inl ne_en1_b1)).other W7 (Or.inl ne_en1_b1)).other W10 (Or.inl ne_en1_b1)).other W13 (Or.inl ne_en1_b1)).other W16 (Or.inl ne_en1_b1)).other W19 (Or.inl ne_en1_b1)).other W22 (Or.inl ne_en1_b1)).other W25 (Or.inl ne_en1_b1)).other W28 (Or.inl ne_en1_b1)).other W31 (Or.inl ne_en1_b1)).other W34 (Or.inl ne_en1_b1)).other W37 (Or.inl ne_en1_b1)).other W40 (Or.inl ne_en1_b1)).other W43 (Or.inl ne_en1_b1)).other W46 (Or.inl ne_en1_b1)).other W49 (Or.inl ne_en1_b1))) hZ (hw _ (List.mem_of_getElem? (i := 41) rfl)) (hw _ (List.mem_of_getElem? (i := 3) rfl)) (by decide) (by decide)) q59a q59c (g := (mkF m 146 #[.val (.int p1), .val (.ref b1), .val (.int (1 : Int32)), .val (.int (1 : Int32))] [(.ref en1)])) rfl (by rw [hml]; rfl) (Steps.refl _) (argsL := []) (rest := []) (lenOf pd_1 rfl) rfl (by show 2 * 0 + _ ≤ _; exact Nat.le_of_eq rfl) (hb hby at_146) (fun _ _ => ⟨rfl, e49, (by decide : 1 + 0 ≤ _), (by decide : 16 + 0 ≤ _)⟩)
    dsimp only [Pt.U, Pt.locs, Pt.cells, Pt.slots] at X59 l59 y59 z59 st59 hQ59
    subst l59 y59 z59
    obtain ⟨rfl, N59q, e59⟩ := hQ59
    have N59 := Fr.app N49 N59q
    replace X59 : Stand p l e room_1 s m _ below meth c T59 _ 1 16 := X59
    refine own_go (fun t_ k => st59.trans k) ?_
    show WP p e below _ (T59.setTop (mkF m 149 #[.val (.int p1), .val (.ref b1), .val (.int (1 : Int32)), .val (.int (1 : Int32))] [(.int (1 : Int32))]))
    refine own_go (fun t_ k => XS.iloadN X59.here hx rfl (hb hby at_149) rfl k) ?_
    show WP p e below _ (T59.setTop (mkF m 150 #[.val (.int p1), .val (.ref b1), .val (.int (1 : Int32)), .val (.int (1 : Int32))] [(.int (1 : Int32)), (.int (1 : Int32))]))
    have hc150_60 : ((1 : Int32) = (1 : Int32)) := by decide
    refine own_go (fun t_ k => XS.icmpNo X59.here hx rfl (hb hby at_150) rfl (teq hc150_60).2 k) ?_
    show WP p e below _ (T59.setTop (mkF m 153 #[.val (.int p1), .val (.ref b1), .val (.int (1 : Int32)), .val (.int (1 : Int32))] []))
    refine own_go (fun t_ k => XS.iconst X59.here hx rfl (hb hby at_153) k) ?_
    show WP p e below _ (T59.setTop (mkF m 154 #[.val (.int p1), .val (.ref b1), .val (.int (1 : Int32)), .val (.int (1 : Int32))] [(.int (1 : Int32))]))
    refine own_go (fun t_ k => XS.goto X59.here hx rfl (pc0 := 154) (pc' := 158) rfl (hb hby at_154) (by decide) (by decide) k) ?_
    show WP p e below _ (T59.setTop (mkF m 158 #[.val (.int p1), .val (.ref b1), .val (.int (1 : Int32)), .val (.int (1 : Int32))] [(.int (1 : Int32))]))
    exact own_retZ X59 hx Bd.notSynchronized Bd.returns (hb hby at_158) (by decide) (show Q0 n0 _ _ _ from ⟨rfl, N59⟩) (by decide) (by decide)
  · subst hs51
    show WP p e below _ (T49.setTop (mkF m 120 #[.val (.int p1), .val (.ref b1), .val (.int (2 : Int32)), .unset] []))
    refine own_go (fun t_ k => XS.iloadN X49.here hx rfl (hb hby at_120) rfl k) ?_
    show WP p e below _ (T49.setTop (mkF m 121 #[.val (.int p1), .val (.ref b1), .val (.int (2 : Int32)), .unset] [(.int (2 : Int32))]))
    refine own_go (fun t_ k => XS.iconst X49.here hx rfl (hb hby at_121) k) ?_
    show WP p e below _ (T49.setTop (mkF m 122 #[.val (.int p1), .val (.ref b1), .val (.int (2 : Int32)), .unset] [(.int (1 : Int32)), (.int (2 : Int32))]))
    have hc122_61 : ¬ ((2 : Int32) = (1 : Int32)) := by decide
    refine own_go (fun t_ k => XS.icmpNo X49.here hx rfl (hb hby at_122) rfl (feq hc122_61).1 k) ?_
    show WP p e below _ (T49.setTop (mkF m 125 #[.val (.int p1), .val (.ref b1), .val (.int (2 : Int32)), .unset] []))
    refine own_go (fun t_ k => XS.iloadN X49.here hx rfl (hb hby at_125) rfl k) ?_
    show WP p e below _ (T49.setTop (mkF m 126 #[.val (.int p1), .val (.ref b1), .val (.int (2 : Int32)), .unset] [(.int (2 : Int32))]))
    refine own_go (fun t_ k => XS.bipush X49.here hx rfl (hb hby at_126) k) ?_
    show WP p e below _ (T49.setTop (mkF m 128 #[.val (.int p1), .val (.ref b1), .val (.int (2 : Int32)), .unset] [(.int (9 : Int32)), (.int (2 : Int32))]))
    have hc128_62 : ((2 : Int32) < (9 : Int32)) := by decide
    refine own_go (fun t_ k => XS.icmpYes X49.here hx rfl (pc0 := 128) (pc' := 141) rfl (hb hby at_128) rfl (tlt hc128_62).1 (by decide) (by decide) k) ?_
    show WP p e below _ (T49.setTop (mkF m 141 #[.val (.int p1), .val (.ref b1), .val (.int (2 : Int32)), .unset] []))
    refine own_go (fun t_ k => XS.iconst X49.here hx rfl (hb hby at_141) k) ?_
    show WP p e below _ (T49.setTop (mkF m 142 #[.val (.int p1), .val (.ref b1), .val (.int (2 : Int32)), .unset] [(.int (0 : Int32))]))
    refine own_go (fun t_ k => XS.istoreN X49.here hx rfl (hb hby at_142) rfl (l' := #[.val (.int p1), .val (.ref b1), .val (.int (2 : Int32)), .val (.int (0 : Int32))]) rfl k) ?_
    show WP p e below _ (T49.setTop (mkF m 143 #[.val (.int p1), .val (.ref b1), .val (.int (2 : Int32)), .val (.int (0 : Int32))] []))
    refine own_go (fun t_ k => XS.aloadN X49.here hx rfl (hb hby at_143) rfl rfl k) ?_
    show WP p e below _ (T49.setTop (mkF m 144 #[.val (.int p1), .val (.ref b1), .val (.int (2 : Int32)), .val (.int (0 : Int32))] [(.ref b1)]))
    refine own_go (fun t_ k => XS.iloadN X49.here hx rfl (hb hby at_144) rfl k) ?_
    show WP p e below _ (T49.setTop (mkF m 145 #[.val (.int p1), .val (.ref b1), .val (.int (2 : Int32)), .val (.int (0 : Int32))] [(.int (2 : Int32)), (.ref b1)]))
    obtain ⟨cl63, Ar63, -, S63, M63, H63, -⟩ := id (V49)
    have hin63 : ¬ ((2 : Int32) < 0 ∨ cl63.slots.size ≤ ((2 : Int32)).toNatClampNeg) := inb_of S63 (⟨by decide, by decide⟩)
    refine own_go (fun t_ k => X49.aaload hx (j := (2 : Int32)) (v := (.ref en2)) (by rw [e49]; exact Ar63.1) (State.isArrayOf_alike hZ.alike Ar63.2.1) rfl Ar63.2.2 hin63 (H63.at hin63 rfl) (g := (mkF m 145 #[.val (.int p1), .val (.ref b1), .val (.int (2 : Int32)), .val (.int (0 : Int32))] [(.int (2 : Int32)), (.ref b1)])) rfl rfl (hb hby at_145) _ k) ?_
    show WP p e below _ (T49.setTop (mkF m 146 #[.val (.int p1), .val (.ref b1), .val (.int (2 : Int32)), .val (.int (0 : Int32))] [(.ref en2)]))
    obtain ⟨cq64, kq64, q64a, q64b, q64c⟩ := isOf (T := T49) hZ e49 (((((((((((((((((Een2.ext E1).wr W4).wr W7).wr W10).wr W13).wr W16).wr W19).wr W22).wr W25).wr W28).wr W31).wr W34).wr W37).wr W40).wr W43).wr W46).wr W49)
    obtain ⟨_, _, ⟨T64, L64, k64, n64⟩, -, X64, ⟨Lc64, hQ64, l64, y64, z64⟩, st64⟩ := X49.virtualBack hx (y := (⟨"com/example/prefold/prefold/passes/Node$Operator", "truth", "()Z"⟩ : MethodName)) (z := (⟨"com/example/prefold/prefold/passes/Node$Operator", "truth", "()Z"⟩ : MethodName)) hown (mvT hZ (hw _ (List.mem_of_getElem? (i := 37) rfl))) (mvT hZ (hw _ (List.mem_of_getElem? (i := 38) rfl))) (notFace_of_selects (args := #[]) (mvT hZ (hw _ (List.mem_of_getElem? (i := 40) rfl)))) (mvT hZ (hw _ (List.mem_of_getElem? (i := 40) rfl))) (mvT hZ (hw _ (List.mem_of_getElem? (i := 39) rfl))) (by decide) (backOf (W := 0) (rm1_2 l Z a0 hw [] en2 h49 n0 (((((((((((((((((Een2.ext E1).wr W4).wr W7).wr W10).wr W13).wr W16).wr W19).wr W22).wr W25).wr W28).wr W31).wr W34).wr W37).wr W40).wr W43).wr W46).wr W49) (((((((((((((((((Fen2.ext E1).other W4 (Or.inl ne_en2_b1)).other W7 (Or.inl ne_en2_b1)).other W10 (Or.inl ne_en2_b1)).other W13 (Or.inl ne_en2_b1)).other W16 (Or.inl ne_en2_b1)).other W19 (Or.inl ne_en2_b1)).other W22 (Or.inl ne_en2_b1)).other W25 (Or.inl ne_en2_b1)).other W28 (Or.inl ne_en2_b1)).other W31 (Or.inl ne_en2_b1)).other W34 (Or.inl ne_en2_b1)).other W37 (Or.inl ne_en2_b1)).other W40 (Or.inl ne_en2_b1)).other W43 (Or.inl ne_en2_b1)).other W46 (Or.inl ne_en2_b1)).other W49 (Or.inl ne_en2_b1))) hZ (hw _ (List.mem_of_getElem? (i := 41) rfl)) (hw _ (List.mem_of_getElem? (i := 3) rfl)) (by decide) (by decide)) q64a q64c (g := (mkF m 146 #[.val (.int p1), .val (.ref b1), .val (.int (2 : Int32)), .val (.int (0 : Int32))] [(.ref en2)])) rfl (by rw [hml]; rfl) (Steps.refl _) (argsL := []) (rest := []) (lenOf pd_1 rfl) rfl (by show 2 * 0 + _ ≤ _; exact Nat.le_of_eq rfl) (hb hby at_146) (fun _ _ => ⟨rfl, e49, (by decide : 1 + 0 ≤ _), (by decide : 16 + 0 ≤ _)⟩)
    dsimp only [Pt.U, Pt.locs, Pt.cells, Pt.slots] at X64 l64 y64 z64 st64 hQ64
    subst l64 y64 z64
    obtain ⟨rfl, N64q, e64⟩ := hQ64
    have N64 := Fr.app N49 N64q
    replace X64 : Stand p l e room_1 s m _ below meth c T64 _ 1 16 := X64
    refine own_go (fun t_ k => st64.trans k) ?_
    show WP p e below _ (T64.setTop (mkF m 149 #[.val (.int p1), .val (.ref b1), .val (.int (2 : Int32)), .val (.int (0 : Int32))] [(.int (0 : Int32))]))
    refine own_go (fun t_ k => XS.iloadN X64.here hx rfl (hb hby at_149) rfl k) ?_
    show WP p e below _ (T64.setTop (mkF m 150 #[.val (.int p1), .val (.ref b1), .val (.int (2 : Int32)), .val (.int (0 : Int32))] [(.int (0 : Int32)), (.int (0 : Int32))]))
    have hc150_65 : ((0 : Int32) = (0 : Int32)) := by decide
    refine own_go (fun t_ k => XS.icmpNo X64.here hx rfl (hb hby at_150) rfl (teq hc150_65).2 k) ?_
    show WP p e below _ (T64.setTop (mkF m 153 #[.val (.int p1), .val (.ref b1), .val (.int (2 : Int32)), .val (.int (0 : Int32))] []))
    refine own_go (fun t_ k => XS.iconst X64.here hx rfl (hb hby at_153) k) ?_
    show WP p e below _ (T64.setTop (mkF m 154 #[.val (.int p1), .val (.ref b1), .val (.int (2 : Int32)), .val (.int (0 : Int32))] [(.int (1 : Int32))]))
    refine own_go (fun t_ k => XS.goto X64.here hx rfl (pc0 := 154) (pc' := 158) rfl (hb hby at_154) (by decide) (by decide) k) ?_
    show WP p e below _ (T64.setTop (mkF m 158 #[.val (.int p1), .val (.ref b1), .val (.int (2 : Int32)), .val (.int (0 : Int32))] [(.int (1 : Int32))]))
    exact own_retZ X64 hx Bd.notSynchronized Bd.returns (hb hby at_158) (by decide) (show Q0 n0 _ _ _ from ⟨rfl, N64⟩) (by decide) (by decide)
  · subst hs51
    show WP p e below _ (T49.setTop (mkF m 120 #[.val (.int p1), .val (.ref b1), .val (.int (3 : Int32)), .unset] []))
    refine own_go (fun t_ k => XS.iloadN X49.here hx rfl (hb hby at_120) rfl k) ?_
    show WP p e below _ (T49.setTop (mkF m 121 #[.val (.int p1), .val (.ref b1), .val (.int (3 : Int32)), .unset] [(.int (3 : Int32))]))
    refine own_go (fun t_ k => XS.iconst X49.here hx rfl (hb hby at_121) k) ?_
    show WP p e below _ (T49.setTop (mkF m 122 #[.val (.int p1), .val (.ref b1), .val (.int (3 : Int32)), .unset] [(.int (1 : Int32)), (.int (3 : Int32))]))
    have hc122_66 : ¬ ((3 : Int32) = (1 : Int32)) := by decide
    refine own_go (fun t_ k => XS.icmpNo X49.here hx rfl (hb hby at_122) rfl (feq hc122_66).1 k) ?_
    show WP p e below _ (T49.setTop (mkF m 125 #[.val (.int p1), .val (.ref b1), .val (.int (3 : Int32)), .unset] []))
    refine own_go (fun t_ k => XS.iloadN X49.here hx rfl (hb hby at_125) rfl k) ?_
    show WP p e below _ (T49.setTop (mkF m 126 #[.val (.int p1), .val (.ref b1), .val (.int (3 : Int32)), .unset] [(.int (3 : Int32))]))
    refine own_go (fun t_ k => XS.bipush X49.here hx rfl (hb hby at_126) k) ?_
    show WP p e below _ (T49.setTop (mkF m 128 #[.val (.int p1), .val (.ref b1), .val (.int (3 : Int32)), .unset] [(.int (9 : Int32)), (.int (3 : Int32))]))
    have hc128_67 : ((3 : Int32) < (9 : Int32)) := by decide
    refine own_go (fun t_ k => XS.icmpYes X49.here hx rfl (pc0 := 128) (pc' := 141) rfl (hb hby at_128) rfl (tlt hc128_67).1 (by decide) (by decide) k) ?_
    show WP p e below _ (T49.setTop (mkF m 141 #[.val (.int p1), .val (.ref b1), .val (.int (3 : Int32)), .unset] []))
    refine own_go (fun t_ k => XS.iconst X49.here hx rfl (hb hby at_141) k) ?_
    show WP p e below _ (T49.setTop (mkF m 142 #[.val (.int p1), .val (.ref b1), .val (.int (3 : Int32)), .unset] [(.int (0 : Int32))]))
    refine own_go (fun t_ k => XS.istoreN X49.here hx rfl (hb hby at_142) rfl (l' := #[.val (.int p1), .val (.ref b1), .val (.int (3 : Int32)), .val (.int (0 : Int32))]) rfl k) ?_
    show WP p e below _ (T49.setTop (mkF m 143 #[.val (.int p1), .val (.ref b1), .val (.int (3 : Int32)), .val (.int (0 : Int32))] []))
    refine own_go (fun t_ k => XS.aloadN X49.here hx rfl (hb hby at_143) rfl rfl k) ?_
    show WP p e below _ (T49.setTop (mkF m 144 #[.val (.int p1), .val (.ref b1), .val (.int (3 : Int32)), .val (.int (0 : Int32))] [(.ref b1)]))
    refine own_go (fun t_ k => XS.iloadN X49.here hx rfl (hb hby at_144) rfl k) ?_
    show WP p e below _ (T49.setTop (mkF m 145 #[.val (.int p1), .val (.ref b1), .val (.int (3 : Int32)), .val (.int (0 : Int32))] [(.int (3 : Int32)), (.ref b1)]))
    obtain ⟨cl68, Ar68, -, S68, M68, H68, -⟩ := id (V49)
    have hin68 : ¬ ((3 : Int32) < 0 ∨ cl68.slots.size ≤ ((3 : Int32)).toNatClampNeg) := inb_of S68 (⟨by decide, by decide⟩)
    refine own_go (fun t_ k => X49.aaload hx (j := (3 : Int32)) (v := (.ref en3)) (by rw [e49]; exact Ar68.1) (State.isArrayOf_alike hZ.alike Ar68.2.1) rfl Ar68.2.2 hin68 (H68.at hin68 rfl) (g := (mkF m 145 #[.val (.int p1), .val (.ref b1), .val (.int (3 : Int32)), .val (.int (0 : Int32))] [(.int (3 : Int32)), (.ref b1)])) rfl rfl (hb hby at_145) _ k) ?_
    show WP p e below _ (T49.setTop (mkF m 146 #[.val (.int p1), .val (.ref b1), .val (.int (3 : Int32)), .val (.int (0 : Int32))] [(.ref en3)]))
    obtain ⟨cq69, kq69, q69a, q69b, q69c⟩ := isOf (T := T49) hZ e49 (((((((((((((((((Een3.ext E1).wr W4).wr W7).wr W10).wr W13).wr W16).wr W19).wr W22).wr W25).wr W28).wr W31).wr W34).wr W37).wr W40).wr W43).wr W46).wr W49)
    obtain ⟨_, _, ⟨T69, L69, k69, n69⟩, -, X69, ⟨Lc69, hQ69, l69, y69, z69⟩, st69⟩ := X49.virtualBack hx (y := (⟨"com/example/prefold/prefold/passes/Node$Operator", "truth", "()Z"⟩ : MethodName)) (z := (⟨"com/example/prefold/prefold/passes/Node$Operator", "truth", "()Z"⟩ : MethodName)) hown (mvT hZ (hw _ (List.mem_of_getElem? (i := 37) rfl))) (mvT hZ (hw _ (List.mem_of_getElem? (i := 38) rfl))) (notFace_of_selects (args := #[]) (mvT hZ (hw _ (List.mem_of_getElem? (i := 40) rfl)))) (mvT hZ (hw _ (List.mem_of_getElem? (i := 40) rfl))) (mvT hZ (hw _ (List.mem_of_getElem? (i := 39) rfl))) (by decide) (backOf (W := 0) (rm1_3 l Z a0 hw [] en3 h49 n0 (((((((((((((((((Een3.ext E1).wr W4).wr W7).wr W10).wr W13).wr W16).wr W19).wr W22).wr W25).wr W28).wr W31).wr W34).wr W37).wr W40).wr W43).wr W46).wr W49) (((((((((((((((((Fen3.ext E1).other W4 (Or.inl ne_en3_b1)).other W7 (Or.inl ne_en3_b1)).other W10 (Or.inl ne_en3_b1)).other W13 (Or.inl ne_en3_b1)).other W16 (Or.inl ne_en3_b1)).other W19 (Or.inl ne_en3_b1)).other W22 (Or.inl ne_en3_b1)).other W25 (Or.inl ne_en3_b1)).other W28 (Or.inl ne_en3_b1)).other W31 (Or.inl ne_en3_b1)).other W34 (Or.inl ne_en3_b1)).other W37 (Or.inl ne_en3_b1)).other W40 (Or.inl ne_en3_b1)).other W43 (Or.inl ne_en3_b1)).other W46 (Or.inl ne_en3_b1)).other W49 (Or.inl ne_en3_b1))) hZ (hw _ (List.mem_of_getElem? (i := 41) rfl)) (hw _ (List.mem_of_getElem? (i := 3) rfl)) (by decide) (by decide)) q69a q69c (g := (mkF m 146 #[.val (.int p1), .val (.ref b1), .val (.int (3 : Int32)), .val (.int (0 : Int32))] [(.ref en3)])) rfl (by rw [hml]; rfl) (Steps.refl _) (argsL := []) (rest := []) (lenOf pd_1 rfl) rfl (by show 2 * 0 + _ ≤ _; exact Nat.le_of_eq rfl) (hb hby at_146) (fun _ _ => ⟨rfl, e49, (by decide : 1 + 0 ≤ _), (by decide : 16 + 0 ≤ _)⟩)
    dsimp only [Pt.U, Pt.locs, Pt.cells, Pt.slots] at X69 l69 y69 z69 st69 hQ69
    subst l69 y69 z69
    obtain ⟨rfl, N69q, e69⟩ := hQ69
    have N69 := Fr.app N49 N69q
    replace X69 : Stand p l e room_1 s m _ below meth c T69 _ 1 16 := X69
    refine own_go (fun t_ k => st69.trans k) ?_
    show WP p e below _ (T69.setTop (mkF m 149 #[.val (.int p1), .val (.ref b1), .val (.int (3 : Int32)), .val (.int (0 : Int32))] [(.int (0 : Int32))]))
    refine own_go (fun t_ k => XS.iloadN X69.here hx rfl (hb hby at_149) rfl k) ?_
    show WP p e below _ (T69.setTop (mkF m 150 #[.val (.int p1), .val (.ref b1), .val (.int (3 : Int32)), .val (.int (0 : Int32))] [(.int (0 : Int32)), (.int (0 : Int32))]))
    have hc150_70 : ((0 : Int32) = (0 : Int32)) := by decide
    refine own_go (fun t_ k => XS.icmpNo X69.here hx rfl (hb hby at_150) rfl (teq hc150_70).2 k) ?_
    show WP p e below _ (T69.setTop (mkF m 153 #[.val (.int p1), .val (.ref b1), .val (.int (3 : Int32)), .val (.int (0 : Int32))] []))
    refine own_go (fun t_ k => XS.iconst X69.here hx rfl (hb hby at_153) k) ?_
    show WP p e below _ (T69.setTop (mkF m 154 #[.val (.int p1), .val (.ref b1), .val (.int (3 : Int32)), .val (.int (0 : Int32))] [(.int (1 : Int32))]))
    refine own_go (fun t_ k => XS.goto X69.here hx rfl (pc0 := 154) (pc' := 158) rfl (hb hby at_154) (by decide) (by decide) k) ?_
    show WP p e below _ (T69.setTop (mkF m 158 #[.val (.int p1), .val (.ref b1), .val (.int (3 : Int32)), .val (.int (0 : Int32))] [(.int (1 : Int32))]))
    exact own_retZ X69 hx Bd.notSynchronized Bd.returns (hb hby at_158) (by decide) (show Q0 n0 _ _ _ from ⟨rfl, N69⟩) (by decide) (by decide)
  · subst hs51
    show WP p e below _ (T49.setTop (mkF m 120 #[.val (.int p1), .val (.ref b1), .val (.int (4 : Int32)), .unset] []))
    refine own_go (fun t_ k => XS.iloadN X49.here hx rfl (hb hby at_120) rfl k) ?_
    show WP p e below _ (T49.setTop (mkF m 121 #[.val (.int p1), .val (.ref b1), .val (.int (4 : Int32)), .unset] [(.int (4 : Int32))]))
    refine own_go (fun t_ k => XS.iconst X49.here hx rfl (hb hby at_121) k) ?_
    show WP p e below _ (T49.setTop (mkF m 122 #[.val (.int p1), .val (.ref b1), .val (.int (4 : Int32)), .unset] [(.int (1 : Int32)), (.int (4 : Int32))]))
    have hc122_71 : ¬ ((4 : Int32) = (1 : Int32)) := by decide
    refine own_go (fun t_ k => XS.icmpNo X49.here hx rfl (hb hby at_122) rfl (feq hc122_71).1 k) ?_
    show WP p e below _ (T49.setTop (mkF m 125 #[.val (.int p1), .val (.ref b1), .val (.int (4 : Int32)), .unset] []))
    refine own_go (fun t_ k => XS.iloadN X49.here hx rfl (hb hby at_125) rfl k) ?_
    show WP p e below _ (T49.setTop (mkF m 126 #[.val (.int p1), .val (.ref b1), .val (.int (4 : Int32)), .unset] [(.int (4 : Int32))]))
    refine own_go (fun t_ k => XS.bipush X49.here hx rfl (hb hby at_126) k) ?_
    show WP p e below _ (T49.setTop (mkF m 128 #[.val (.int p1), .val (.ref b1), .val (.int (4 : Int32)), .unset] [(.int (9 : Int32)), (.int (4 : Int32))]))
    have hc128_72 : ((4 : Int32) < (9 : Int32)) := by decide
    refine own_go (fun t_ k => XS.icmpYes X49.here hx rfl (pc0 := 128) (pc' := 141) rfl (hb hby at_128) rfl (tlt hc128_72).1 (by decide) (by decide) k) ?_
    show WP p e below _ (T49.setTop (mkF m 141 #[.val (.int p1), .val (.ref b1), .val (.int (4 : Int32)), .unset] []))
    refine own_go (fun t_ k => XS.iconst X49.here hx rfl (hb hby at_141) k) ?_
    show WP p e below _ (T49.setTop (mkF m 142 #[.val (.int p1), .val (.ref b1), .val (.int (4 : Int32)), .unset] [(.int (0 : Int32))]))
    refine own_go (fun t_ k => XS.istoreN X49.here hx rfl (hb hby at_142) rfl (l' := #[.val (.int p1), .val (.ref b1), .val (.int (4 : Int32)), .val (.int (0 : Int32))]) rfl k) ?_
    show WP p e below _ (T49.setTop (mkF m 143 #[.val (.int p1), .val (.ref b1), .val (.int (4 : Int32)), .val (.int (0 : Int32))] []))
    refine own_go (fun t_ k => XS.aloadN X49.here hx rfl (hb hby at_143) rfl rfl k) ?_
    show WP p e below _ (T49.setTop (mkF m 144 #[.val (.int p1), .val (.ref b1), .val (.int (4 : Int32)), .val (.int (0 : Int32))] [(.ref b1)]))
    refine own_go (fun t_ k => XS.iloadN X49.here hx rfl (hb hby at_144) rfl k) ?_
    show WP p e below _ (T49.setTop (mkF m 145 #[.val (.int p1), .val (.ref b1), .val (.int (4 : Int32)), .val (.int (0 : Int32))] [(.int (4 : Int32)), (.ref b1)]))
    obtain ⟨cl73, Ar73, -, S73, M73, H73, -⟩ := id (V49)
    have hin73 : ¬ ((4 : Int32) < 0 ∨ cl73.slots.size ≤ ((4 : Int32)).toNatClampNeg) := inb_of S73 (⟨by decide, by decide⟩)
    refine own_go (fun t_ k => X49.aaload hx (j := (4 : Int32)) (v := (.ref en4)) (by rw [e49]; exact Ar73.1) (State.isArrayOf_alike hZ.alike Ar73.2.1) rfl Ar73.2.2 hin73 (H73.at hin73 rfl) (g := (mkF m 145 #[.val (.int p1), .val (.ref b1), .val (.int (4 : Int32)), .val (.int (0 : Int32))] [(.int (4 : Int32)), (.ref b1)])) rfl rfl (hb hby at_145) _ k) ?_
    show WP p e below _ (T49.setTop (mkF m 146 #[.val (.int p1), .val (.ref b1), .val (.int (4 : Int32)), .val (.int (0 : Int32))] [(.ref en4)]))
    obtain ⟨cq74, kq74, q74a, q74b, q74c⟩ := isOf (T := T49) hZ e49 (((((((((((((((((Een4.ext E1).wr W4).wr W7).wr W10).wr W13).wr W16).wr W19).wr W22).wr W25).wr W28).wr W31).wr W34).wr W37).wr W40).wr W43).wr W46).wr W49)
    obtain ⟨_, _, ⟨T74, L74, k74, n74⟩, -, X74, ⟨Lc74, hQ74, l74, y74, z74⟩, st74⟩ := X49.virtualBack hx (y := (⟨"com/example/prefold/prefold/passes/Node$Operator", "truth", "()Z"⟩ : MethodName)) (z := (⟨"com/example/prefold/prefold/passes/Node$Operator", "truth", "()Z"⟩ : MethodName)) hown (mvT hZ (hw _ (List.mem_of_getElem? (i := 37) rfl))) (mvT hZ (hw _ (List.mem_of_getElem? (i := 38) rfl))) (notFace_of_selects (args := #[]) (mvT hZ (hw _ (List.mem_of_getElem? (i := 40) rfl)))) (mvT hZ (hw _ (List.mem_of_getElem? (i := 40) rfl))) (mvT hZ (hw _ (List.mem_of_getElem? (i := 39) rfl))) (by decide) (backOf (W := 0) (rm1_4 l Z a0 hw [] en4 h49 n0 (((((((((((((((((Een4.ext E1).wr W4).wr W7).wr W10).wr W13).wr W16).wr W19).wr W22).wr W25).wr W28).wr W31).wr W34).wr W37).wr W40).wr W43).wr W46).wr W49) (((((((((((((((((Fen4.ext E1).other W4 (Or.inl ne_en4_b1)).other W7 (Or.inl ne_en4_b1)).other W10 (Or.inl ne_en4_b1)).other W13 (Or.inl ne_en4_b1)).other W16 (Or.inl ne_en4_b1)).other W19 (Or.inl ne_en4_b1)).other W22 (Or.inl ne_en4_b1)).other W25 (Or.inl ne_en4_b1)).other W28 (Or.inl ne_en4_b1)).other W31 (Or.inl ne_en4_b1)).other W34 (Or.inl ne_en4_b1)).other W37 (Or.inl ne_en4_b1)).other W40 (Or.inl ne_en4_b1)).other W43 (Or.inl ne_en4_b1)).other W46 (Or.inl ne_en4_b1)).other W49 (Or.inl ne_en4_b1))) hZ (hw _ (List.mem_of_getElem? (i := 41) rfl)) (hw _ (List.mem_of_getElem? (i := 3) rfl)) (by decide) (by decide)) q74a q74c (g := (mkF m 146 #[.val (.int p1), .val (.ref b1), .val (.int (4 : Int32)), .val (.int (0 : Int32))] [(.ref en4)])) rfl (by rw [hml]; rfl) (Steps.refl _) (argsL := []) (rest := []) (lenOf pd_1 rfl) rfl (by show 2 * 0 + _ ≤ _; exact Nat.le_of_eq rfl) (hb hby at_146) (fun _ _ => ⟨rfl, e49, (by decide : 1 + 0 ≤ _), (by decide : 16 + 0 ≤ _)⟩)
    dsimp only [Pt.U, Pt.locs, Pt.cells, Pt.slots] at X74 l74 y74 z74 st74 hQ74
    subst l74 y74 z74
    obtain ⟨rfl, N74q, e74⟩ := hQ74
    have N74 := Fr.app N49 N74q
    replace X74 : Stand p l e room_1 s m _ below meth c T74 _ 1 16 := X74
    refine own_go (fun t_ k => st74.trans k) ?_
    show WP p e below _ (T74.setTop (mkF m 149 #[.val (.int p1), .val (.ref b1), .val (.int (4 : Int32)), .val (.int (0 : Int32))] [(.int (0 : Int32))]))
    refine own_go (fun t_ k => XS.iloadN X74.here hx rfl (hb hby at_149) rfl k) ?_
    show WP p e below _ (T74.setTop (mkF m 150 #[.val (.int p1), .val (.ref b1), .val (.int (4 : Int32)), .val (.int (0 : Int32))] [(.int (0 : Int32)), (.int (0 : Int32))]))
    have hc150_75 : ((0 : Int32) = (0 : Int32)) := by decide
    refine own_go (fun t_ k => XS.icmpNo X74.here hx rfl (hb hby at_150) rfl (teq hc150_75).2 k) ?_
    show WP p e below _ (T74.setTop (mkF m 153 #[.val (.int p1), .val (.ref b1), .val (.int (4 : Int32)), .val (.int (0 : Int32))] []))
    refine own_go (fun t_ k => XS.iconst X74.here hx rfl (hb hby at_153) k) ?_
    show WP p e below _ (T74.setTop (mkF m 154 #[.val (.int p1), .val (.ref b1), .val (.int (4 : Int32)), .val (.int (0 : Int32))] [(.int (1 : Int32))]))
    refine own_go (fun t_ k => XS.goto X74.here hx rfl (pc0 := 154) (pc' := 158) rfl (hb hby at_154) (by decide) (by decide) k) ?_
    show WP p e below _ (T74.setTop (mkF m 158 #[.val (.int p1), .val (.ref b1), .val (.int (4 : Int32)), .val (.int (0 : Int32))] [(.int (1 : Int32))]))
    exact own_retZ X74 hx Bd.notSynchronized Bd.returns (hb hby at_158) (by decide) (show Q0 n0 _ _ _ from ⟨rfl, N74⟩) (by decide) (by decide)
  · subst hs51
    show WP p e below _ (T49.setTop (mkF m 120 #[.val (.int p1), .val (.ref b1), .val (.int (5 : Int32)), .unset] []))
    refine own_go (fun t_ k => XS.iloadN X49.here hx rfl (hb hby at_120) rfl k) ?_
    show WP p e below _ (T49.setTop (mkF m 121 #[.val (.int p1), .val (.ref b1), .val (.int (5 : Int32)), .unset] [(.int (5 : Int32))]))
    refine own_go (fun t_ k => XS.iconst X49.here hx rfl (hb hby at_121) k) ?_
    show WP p e below _ (T49.setTop (mkF m 122 #[.val (.int p1), .val (.ref b1), .val (.int (5 : Int32)), .unset] [(.int (1 : Int32)), (.int (5 : Int32))]))
    have hc122_76 : ¬ ((5 : Int32) = (1 : Int32)) := by decide
    refine own_go (fun t_ k => XS.icmpNo X49.here hx rfl (hb hby at_122) rfl (feq hc122_76).1 k) ?_
    show WP p e below _ (T49.setTop (mkF m 125 #[.val (.int p1), .val (.ref b1), .val (.int (5 : Int32)), .unset] []))
    refine own_go (fun t_ k => XS.iloadN X49.here hx rfl (hb hby at_125) rfl k) ?_
    show WP p e below _ (T49.setTop (mkF m 126 #[.val (.int p1), .val (.ref b1), .val (.int (5 : Int32)), .unset] [(.int (5 : Int32))]))
    refine own_go (fun t_ k => XS.bipush X49.here hx rfl (hb hby at_126) k) ?_
    show WP p e below _ (T49.setTop (mkF m 128 #[.val (.int p1), .val (.ref b1), .val (.int (5 : Int32)), .unset] [(.int (9 : Int32)), (.int (5 : Int32))]))
    have hc128_77 : ((5 : Int32) < (9 : Int32)) := by decide
    refine own_go (fun t_ k => XS.icmpYes X49.here hx rfl (pc0 := 128) (pc' := 141) rfl (hb hby at_128) rfl (tlt hc128_77).1 (by decide) (by decide) k) ?_
    show WP p e below _ (T49.setTop (mkF m 141 #[.val (.int p1), .val (.ref b1), .val (.int (5 : Int32)), .unset] []))
    refine own_go (fun t_ k => XS.iconst X49.here hx rfl (hb hby at_141) k) ?_
    show WP p e below _ (T49.setTop (mkF m 142 #[.val (.int p1), .val (.ref b1), .val (.int (5 : Int32)), .unset] [(.int (0 : Int32))]))
    refine own_go (fun t_ k => XS.istoreN X49.here hx rfl (hb hby at_142) rfl (l' := #[.val (.int p1), .val (.ref b1), .val (.int (5 : Int32)), .val (.int (0 : Int32))]) rfl k) ?_
    show WP p e below _ (T49.setTop (mkF m 143 #[.val (.int p1), .val (.ref b1), .val (.int (5 : Int32)), .val (.int (0 : Int32))] []))
    refine own_go (fun t_ k => XS.aloadN X49.here hx rfl (hb hby at_143) rfl rfl k) ?_
    show WP p e below _ (T49.setTop (mkF m 144 #[.val (.int p1), .val (.ref b1), .val (.int (5 : Int32)), .val (.int (0 : Int32))] [(.ref b1)]))
    refine own_go (fun t_ k => XS.iloadN X49.here hx rfl (hb hby at_144) rfl k) ?_
    show WP p e below _ (T49.setTop (mkF m 145 #[.val (.int p1), .val (.ref b1), .val (.int (5 : Int32)), .val (.int (0 : Int32))] [(.int (5 : Int32)), (.ref b1)]))
    obtain ⟨cl78, Ar78, -, S78, M78, H78, -⟩ := id (V49)
    have hin78 : ¬ ((5 : Int32) < 0 ∨ cl78.slots.size ≤ ((5 : Int32)).toNatClampNeg) := inb_of S78 (⟨by decide, by decide⟩)
    refine own_go (fun t_ k => X49.aaload hx (j := (5 : Int32)) (v := (.ref en5)) (by rw [e49]; exact Ar78.1) (State.isArrayOf_alike hZ.alike Ar78.2.1) rfl Ar78.2.2 hin78 (H78.at hin78 rfl) (g := (mkF m 145 #[.val (.int p1), .val (.ref b1), .val (.int (5 : Int32)), .val (.int (0 : Int32))] [(.int (5 : Int32)), (.ref b1)])) rfl rfl (hb hby at_145) _ k) ?_
    show WP p e below _ (T49.setTop (mkF m 146 #[.val (.int p1), .val (.ref b1), .val (.int (5 : Int32)), .val (.int (0 : Int32))] [(.ref en5)]))
    obtain ⟨cq79, kq79, q79a, q79b, q79c⟩ := isOf (T := T49) hZ e49 (((((((((((((((((Een5.ext E1).wr W4).wr W7).wr W10).wr W13).wr W16).wr W19).wr W22).wr W25).wr W28).wr W31).wr W34).wr W37).wr W40).wr W43).wr W46).wr W49)
    obtain ⟨_, _, ⟨T79, L79, k79, n79⟩, -, X79, ⟨Lc79, hQ79, l79, y79, z79⟩, st79⟩ := X49.virtualBack hx (y := (⟨"com/example/prefold/prefold/passes/Node$Operator", "truth", "()Z"⟩ : MethodName)) (z := (⟨"com/example/prefold/prefold/passes/Node$Operator", "truth", "()Z"⟩ : MethodName)) hown (mvT hZ (hw _ (List.mem_of_getElem? (i := 37) rfl))) (mvT hZ (hw _ (List.mem_of_getElem? (i := 38) rfl))) (notFace_of_selects (args := #[]) (mvT hZ (hw _ (List.mem_of_getElem? (i := 40) rfl)))) (mvT hZ (hw _ (List.mem_of_getElem? (i := 40) rfl))) (mvT hZ (hw _ (List.mem_of_getElem? (i := 39) rfl))) (by decide) (backOf (W := 0) (rm1_5 l Z a0 hw [] en5 h49 n0 (((((((((((((((((Een5.ext E1).wr W4).wr W7).wr W10).wr W13).wr W16).wr W19).wr W22).wr W25).wr W28).wr W31).wr W34).wr W37).wr W40).wr W43).wr W46).wr W49) (((((((((((((((((Fen5.ext E1).other W4 (Or.inl ne_en5_b1)).other W7 (Or.inl ne_en5_b1)).other W10 (Or.inl ne_en5_b1)).other W13 (Or.inl ne_en5_b1)).other W16 (Or.inl ne_en5_b1)).other W19 (Or.inl ne_en5_b1)).other W22 (Or.inl ne_en5_b1)).other W25 (Or.inl ne_en5_b1)).other W28 (Or.inl ne_en5_b1)).other W31 (Or.inl ne_en5_b1)).other W34 (Or.inl ne_en5_b1)).other W37 (Or.inl ne_en5_b1)).other W40 (Or.inl ne_en5_b1)).other W43 (Or.inl ne_en5_b1)).other W46 (Or.inl ne_en5_b1)).other W49 (Or.inl ne_en5_b1))) hZ (hw _ (List.mem_of_getElem? (i := 41) rfl)) (hw _ (List.mem_of_getElem? (i := 3) rfl)) (by decide) (by decide)) q79a q79c (g := (mkF m 146 #[.val (.int p1), .val (.ref b1), .val (.int (5 : Int32)), .val (.int (0 : Int32))] [(.ref en5)])) rfl (by rw [hml]; rfl) (Steps.refl _) (argsL := []) (rest := []) (lenOf pd_1 rfl) rfl (by show 2 * 0 + _ ≤ _; exact Nat.le_of_eq rfl) (hb hby at_146) (fun _ _ => ⟨rfl, e49, (by decide : 1 + 0 ≤ _), (by decide : 16 + 0 ≤ _)⟩)
    dsimp only [Pt.U, Pt.locs, Pt.cells, Pt.slots] at X79 l79 y79 z79 st79 hQ79
    subst l79 y79 z79
    obtain ⟨rfl, N79q, e79⟩ := hQ79
    have N79 := Fr.app N49 N79q
    replace X79 : Stand p l e room_1 s m _ below meth c T79 _ 1 16 := X79
    refine own_go (fun t_ k => st79.trans k) ?_
    show WP p e below _ (T79.setTop (mkF m 149 #[.val (.int p1), .val (.ref b1), .val (.int (5 : Int32)), .val (.int (0 : Int32))] [(.int (0 : Int32))]))
    refine own_go (fun t_ k => XS.iloadN X79.here hx rfl (hb hby at_149) rfl k) ?_
    show WP p e below _ (T79.setTop (mkF m 150 #[.val (.int p1), .val (.ref b1), .val (.int (5 : Int32)), .val (.int (0 : Int32))] [(.int (0 : Int32)), (.int (0 : Int32))]))
    have hc150_80 : ((0 : Int32) = (0 : Int32)) := by decide
    refine own_go (fun t_ k => XS.icmpNo X79.here hx rfl (hb hby at_150) rfl (teq hc150_80).2 k) ?_
    show WP p e below _ (T79.setTop (mkF m 153 #[.val (.int p1), .val (.ref b1), .val (.int (5 : Int32)), .val (.int (0 : Int32))] []))
    refine own_go (fun t_ k => XS.iconst X79.here hx rfl (hb hby at_153) k) ?_
    show WP p e below _ (T79.setTop (mkF m 154 #[.val (.int p1), .val (.ref b1), .val (.int (5 : Int32)), .val (.int (0 : Int32))] [(.int (1 : Int32))]))
    refine own_go (fun t_ k => XS.goto X79.here hx rfl (pc0 := 154) (pc' := 158) rfl (hb hby at_154) (by decide) (by decide) k) ?_
    show WP p e below _ (T79.setTop (mkF m 158 #[.val (.int p1), .val (.ref b1), .val (.int (5 : Int32)), .val (.int (0 : Int32))] [(.int (1 : Int32))]))
    exact own_retZ X79 hx Bd.notSynchronized Bd.returns (hb hby at_158) (by decide) (show Q0 n0 _ _ _ from ⟨rfl, N79⟩) (by decide) (by decide)
  · subst hs51
    show WP p e below _ (T49.setTop (mkF m 120 #[.val (.int p1), .val (.ref b1), .val (.int (6 : Int32)), .unset] []))
    refine own_go (fun t_ k => XS.iloadN X49.here hx rfl (hb hby at_120) rfl k) ?_
    show WP p e below _ (T49.setTop (mkF m 121 #[.val (.int p1), .val (.ref b1), .val (.int (6 : Int32)), .unset] [(.int (6 : Int32))]))
    refine own_go (fun t_ k => XS.iconst X49.here hx rfl (hb hby at_121) k) ?_
    show WP p e below _ (T49.setTop (mkF m 122 #[.val (.int p1), .val (.ref b1), .val (.int (6 : Int32)), .unset] [(.int (1 : Int32)), (.int (6 : Int32))]))
    have hc122_81 : ¬ ((6 : Int32) = (1 : Int32)) := by decide
    refine own_go (fun t_ k => XS.icmpNo X49.here hx rfl (hb hby at_122) rfl (feq hc122_81).1 k) ?_
    show WP p e below _ (T49.setTop (mkF m 125 #[.val (.int p1), .val (.ref b1), .val (.int (6 : Int32)), .unset] []))
    refine own_go (fun t_ k => XS.iloadN X49.here hx rfl (hb hby at_125) rfl k) ?_
    show WP p e below _ (T49.setTop (mkF m 126 #[.val (.int p1), .val (.ref b1), .val (.int (6 : Int32)), .unset] [(.int (6 : Int32))]))
    refine own_go (fun t_ k => XS.bipush X49.here hx rfl (hb hby at_126) k) ?_
    show WP p e below _ (T49.setTop (mkF m 128 #[.val (.int p1), .val (.ref b1), .val (.int (6 : Int32)), .unset] [(.int (9 : Int32)), (.int (6 : Int32))]))
    have hc128_82 : ((6 : Int32) < (9 : Int32)) := by decide
    refine own_go (fun t_ k => XS.icmpYes X49.here hx rfl (pc0 := 128) (pc' := 141) rfl (hb hby at_128) rfl (tlt hc128_82).1 (by decide) (by decide) k) ?_
    show WP p e below _ (T49.setTop (mkF m 141 #[.val (.int p1), .val (.ref b1), .val (.int (6 : Int32)), .unset] []))
    refine own_go (fun t_ k => XS.iconst X49.here hx rfl (hb hby at_141) k) ?_
    show WP p e below _ (T49.setTop (mkF m 142 #[.val (.int p1), .val (.ref b1), .val (.int (6 : Int32)), .unset] [(.int (0 : Int32))]))
    refine own_go (fun t_ k => XS.istoreN X49.here hx rfl (hb hby at_142) rfl (l' := #[.val (.int p1), .val (.ref b1), .val (.int (6 : Int32)), .val (.int (0 : Int32))]) rfl k) ?_
    show WP p e below _ (T49.setTop (mkF m 143 #[.val (.int p1), .val (.ref b1), .val (.int (6 : Int32)), .val (.int (0 : Int32))] []))
    refine own_go (fun t_ k => XS.aloadN X49.here hx rfl (hb hby at_143) rfl rfl k) ?_
    show WP p e below _ (T49.setTop (mkF m 144 #[.val (.int p1), .val (.ref b1), .val (.int (6 : Int32)), .val (.int (0 : Int32))] [(.ref b1)]))
    refine own_go (fun t_ k => XS.iloadN X49.here hx rfl (hb hby at_144) rfl k) ?_
    show WP p e below _ (T49.setTop (mkF m 145 #[.val (.int p1), .val (.ref b1), .val (.int (6 : Int32)), .val (.int (0 : Int32))] [(.int (6 : Int32)), (.ref b1)]))
    obtain ⟨cl83, Ar83, -, S83, M83, H83, -⟩ := id (V49)
    have hin83 : ¬ ((6 : Int32) < 0 ∨ cl83.slots.size ≤ ((6 : Int32)).toNatClampNeg) := inb_of S83 (⟨by decide, by decide⟩)
    refine own_go (fun t_ k => X49.aaload hx (j := (6 : Int32)) (v := (.ref en6)) (by rw [e49]; exact Ar83.1) (State.isArrayOf_alike hZ.alike Ar83.2.1) rfl Ar83.2.2 hin83 (H83.at hin83 rfl) (g := (mkF m 145 #[.val (.int p1), .val (.ref b1), .val (.int (6 : Int32)), .val (.int (0 : Int32))] [(.int (6 : Int32)), (.ref b1)])) rfl rfl (hb hby at_145) _ k) ?_
    show WP p e below _ (T49.setTop (mkF m 146 #[.val (.int p1), .val (.ref b1), .val (.int (6 : Int32)), .val (.int (0 : Int32))] [(.ref en6)]))
    obtain ⟨cq84, kq84, q84a, q84b, q84c⟩ := isOf (T := T49) hZ e49 (((((((((((((((((Een6.ext E1).wr W4).wr W7).wr W10).wr W13).wr W16).wr W19).wr W22).wr W25).wr W28).wr W31).wr W34).wr W37).wr W40).wr W43).wr W46).wr W49)
    obtain ⟨_, _, ⟨T84, L84, k84, n84⟩, -, X84, ⟨Lc84, hQ84, l84, y84, z84⟩, st84⟩ := X49.virtualBack hx (y := (⟨"com/example/prefold/prefold/passes/Node$Operator", "truth", "()Z"⟩ : MethodName)) (z := (⟨"com/example/prefold/prefold/passes/Node$Operator", "truth", "()Z"⟩ : MethodName)) hown (mvT hZ (hw _ (List.mem_of_getElem? (i := 37) rfl))) (mvT hZ (hw _ (List.mem_of_getElem? (i := 38) rfl))) (notFace_of_selects (args := #[]) (mvT hZ (hw _ (List.mem_of_getElem? (i := 40) rfl)))) (mvT hZ (hw _ (List.mem_of_getElem? (i := 40) rfl))) (mvT hZ (hw _ (List.mem_of_getElem? (i := 39) rfl))) (by decide) (backOf (W := 0) (rm1_6 l Z a0 hw [] en6 h49 n0 (((((((((((((((((Een6.ext E1).wr W4).wr W7).wr W10).wr W13).wr W16).wr W19).wr W22).wr W25).wr W28).wr W31).wr W34).wr W37).wr W40).wr W43).wr W46).wr W49) (((((((((((((((((Fen6.ext E1).other W4 (Or.inl ne_en6_b1)).other W7 (Or.inl ne_en6_b1)).other W10 (Or.inl ne_en6_b1)).other W13 (Or.inl ne_en6_b1)).other W16 (Or.inl ne_en6_b1)).other W19 (Or.inl ne_en6_b1)).other W22 (Or.inl ne_en6_b1)).other W25 (Or.inl ne_en6_b1)).other W28 (Or.inl ne_en6_b1)).other W31 (Or.inl ne_en6_b1)).other W34 (Or.inl ne_en6_b1)).other W37 (Or.inl ne_en6_b1)).other W40 (Or.inl ne_en6_b1)).other W43 (Or.inl ne_en6_b1)).other W46 (Or.inl ne_en6_b1)).other W49 (Or.inl ne_en6_b1))) hZ (hw _ (List.mem_of_getElem? (i := 41) rfl)) (hw _ (List.mem_of_getElem? (i := 3) rfl)) (by decide) (by decide)) q84a q84c (g := (mkF m 146 #[.val (.int p1), .val (.ref b1), .val (.int (6 : Int32)), .val (.int (0 : Int32))] [(.ref en6)])) rfl (by rw [hml]; rfl) (Steps.refl _) (argsL := []) (rest := []) (lenOf pd_1 rfl) rfl (by show 2 * 0 + _ ≤ _; exact Nat.le_of_eq rfl) (hb hby at_146) (fun _ _ => ⟨rfl, e49, (by decide : 1 + 0 ≤ _), (by decide : 16 + 0 ≤ _)⟩)
    dsimp only [Pt.U, Pt.locs, Pt.cells, Pt.slots] at X84 l84 y84 z84 st84 hQ84
    subst l84 y84 z84
    obtain ⟨rfl, N84q, e84⟩ := hQ84
    have N84 := Fr.app N49 N84q
    replace X84 : Stand p l e room_1 s m _ below meth c T84 _ 1 16 := X84
    refine own_go (fun t_ k => st84.trans k) ?_
    show WP p e below _ (T84.setTop (mkF m 149 #[.val (.int p1), .val (.ref b1), .val (.int (6 : Int32)), .val (.int (0 : Int32))] [(.int (0 : Int32))]))
    refine own_go (fun t_ k => XS.iloadN X84.here hx rfl (hb hby at_149) rfl k) ?_
    show WP p e below _ (T84.setTop (mkF m 150 #[.val (.int p1), .val (.ref b1), .val (.int (6 : Int32)), .val (.int (0 : Int32))] [(.int (0 : Int32)), (.int (0 : Int32))]))
    have hc150_85 : ((0 : Int32) = (0 : Int32)) := by decide
    refine own_go (fun t_ k => XS.icmpNo X84.here hx rfl (hb hby at_150) rfl (teq hc150_85).2 k) ?_
    show WP p e below _ (T84.setTop (mkF m 153 #[.val (.int p1), .val (.ref b1), .val (.int (6 : Int32)), .val (.int (0 : Int32))] []))
    refine own_go (fun t_ k => XS.iconst X84.here hx rfl (hb hby at_153) k) ?_
    show WP p e below _ (T84.setTop (mkF m 154 #[.val (.int p1), .val (.ref b1), .val (.int (6 : Int32)), .val (.int (0 : Int32))] [(.int (1 : Int32))]))
    refine own_go (fun t_ k => XS.goto X84.here hx rfl (pc0 := 154) (pc' := 158) rfl (hb hby at_154) (by decide) (by decide) k) ?_
    show WP p e below _ (T84.setTop (mkF m 158 #[.val (.int p1), .val (.ref b1), .val (.int (6 : Int32)), .val (.int (0 : Int32))] [(.int (1 : Int32))]))
    exact own_retZ X84 hx Bd.notSynchronized Bd.returns (hb hby at_158) (by decide) (show Q0 n0 _ _ _ from ⟨rfl, N84⟩) (by decide) (by decide)
  · subst hs51
    show WP p e below _ (T49.setTop (mkF m 120 #[.val (.int p1), .val (.ref b1), .val (.int (7 : Int32)), .unset] []))
    refine own_go (fun t_ k => XS.iloadN X49.here hx rfl (hb hby at_120) rfl k) ?_
    show WP p e below _ (T49.setTop (mkF m 121 #[.val (.int p1), .val (.ref b1), .val (.int (7 : Int32)), .unset] [(.int (7 : Int32))]))
    refine own_go (fun t_ k => XS.iconst X49.here hx rfl (hb hby at_121) k) ?_
    show WP p e below _ (T49.setTop (mkF m 122 #[.val (.int p1), .val (.ref b1), .val (.int (7 : Int32)), .unset] [(.int (1 : Int32)), (.int (7 : Int32))]))
    have hc122_86 : ¬ ((7 : Int32) = (1 : Int32)) := by decide
    refine own_go (fun t_ k => XS.icmpNo X49.here hx rfl (hb hby at_122) rfl (feq hc122_86).1 k) ?_
    show WP p e below _ (T49.setTop (mkF m 125 #[.val (.int p1), .val (.ref b1), .val (.int (7 : Int32)), .unset] []))
    refine own_go (fun t_ k => XS.iloadN X49.here hx rfl (hb hby at_125) rfl k) ?_
    show WP p e below _ (T49.setTop (mkF m 126 #[.val (.int p1), .val (.ref b1), .val (.int (7 : Int32)), .unset] [(.int (7 : Int32))]))
    refine own_go (fun t_ k => XS.bipush X49.here hx rfl (hb hby at_126) k) ?_
    show WP p e below _ (T49.setTop (mkF m 128 #[.val (.int p1), .val (.ref b1), .val (.int (7 : Int32)), .unset] [(.int (9 : Int32)), (.int (7 : Int32))]))
    have hc128_87 : ((7 : Int32) < (9 : Int32)) := by decide
    refine own_go (fun t_ k => XS.icmpYes X49.here hx rfl (pc0 := 128) (pc' := 141) rfl (hb hby at_128) rfl (tlt hc128_87).1 (by decide) (by decide) k) ?_
    show WP p e below _ (T49.setTop (mkF m 141 #[.val (.int p1), .val (.ref b1), .val (.int (7 : Int32)), .unset] []))
    refine own_go (fun t_ k => XS.iconst X49.here hx rfl (hb hby at_141) k) ?_
    show WP p e below _ (T49.setTop (mkF m 142 #[.val (.int p1), .val (.ref b1), .val (.int (7 : Int32)), .unset] [(.int (0 : Int32))]))
    refine own_go (fun t_ k => XS.istoreN X49.here hx rfl (hb hby at_142) rfl (l' := #[.val (.int p1), .val (.ref b1), .val (.int (7 : Int32)), .val (.int (0 : Int32))]) rfl k) ?_
    show WP p e below _ (T49.setTop (mkF m 143 #[.val (.int p1), .val (.ref b1), .val (.int (7 : Int32)), .val (.int (0 : Int32))] []))
    refine own_go (fun t_ k => XS.aloadN X49.here hx rfl (hb hby at_143) rfl rfl k) ?_
    show WP p e below _ (T49.setTop (mkF m 144 #[.val (.int p1), .val (.ref b1), .val (.int (7 : Int32)), .val (.int (0 : Int32))] [(.ref b1)]))
    refine own_go (fun t_ k => XS.iloadN X49.here hx rfl (hb hby at_144) rfl k) ?_
    show WP p e below _ (T49.setTop (mkF m 145 #[.val (.int p1), .val (.ref b1), .val (.int (7 : Int32)), .val (.int (0 : Int32))] [(.int (7 : Int32)), (.ref b1)]))
    obtain ⟨cl88, Ar88, -, S88, M88, H88, -⟩ := id (V49)
    have hin88 : ¬ ((7 : Int32) < 0 ∨ cl88.slots.size ≤ ((7 : Int32)).toNatClampNeg) := inb_of S88 (⟨by decide, by decide⟩)
    refine own_go (fun t_ k => X49.aaload hx (j := (7 : Int32)) (v := (.ref en7)) (by rw [e49]; exact Ar88.1) (State.isArrayOf_alike hZ.alike Ar88.2.1) rfl Ar88.2.2 hin88 (H88.at hin88 rfl) (g := (mkF m 145 #[.val (.int p1), .val (.ref b1), .val (.int (7 : Int32)), .val (.int (0 : Int32))] [(.int (7 : Int32)), (.ref b1)])) rfl rfl (hb hby at_145) _ k) ?_
    show WP p e below _ (T49.setTop (mkF m 146 #[.val (.int p1), .val (.ref b1), .val (.int (7 : Int32)), .val (.int (0 : Int32))] [(.ref en7)]))
    obtain ⟨cq89, kq89, q89a, q89b, q89c⟩ := isOf (T := T49) hZ e49 (((((((((((((((((Een7.ext E1).wr W4).wr W7).wr W10).wr W13).wr W16).wr W19).wr W22).wr W25).wr W28).wr W31).wr W34).wr W37).wr W40).wr W43).wr W46).wr W49)
    obtain ⟨_, _, ⟨T89, L89, k89, n89⟩, -, X89, ⟨Lc89, hQ89, l89, y89, z89⟩, st89⟩ := X49.virtualBack hx (y := (⟨"com/example/prefold/prefold/passes/Node$Operator", "truth", "()Z"⟩ : MethodName)) (z := (⟨"com/example/prefold/prefold/passes/Node$Operator", "truth", "()Z"⟩ : MethodName)) hown (mvT hZ (hw _ (List.mem_of_getElem? (i := 37) rfl))) (mvT hZ (hw _ (List.mem_of_getElem? (i := 38) rfl))) (notFace_of_selects (args := #[]) (mvT hZ (hw _ (List.mem_of_getElem? (i := 40) rfl)))) (mvT hZ (hw _ (List.mem_of_getElem? (i := 40) rfl))) (mvT hZ (hw _ (List.mem_of_getElem? (i := 39) rfl))) (by decide) (backOf (W := 0) (rm1_7 l Z a0 hw [] en7 h49 n0 (((((((((((((((((Een7.ext E1).wr W4).wr W7).wr W10).wr W13).wr W16).wr W19).wr W22).wr W25).wr W28).wr W31).wr W34).wr W37).wr W40).wr W43).wr W46).wr W49) (((((((((((((((((Fen7.ext E1).other W4 (Or.inl ne_en7_b1)).other W7 (Or.inl ne_en7_b1)).other W10 (Or.inl ne_en7_b1)).other W13 (Or.inl ne_en7_b1)).other W16 (Or.inl ne_en7_b1)).other W19 (Or.inl ne_en7_b1)).other W22 (Or.inl ne_en7_b1)).other W25 (Or.inl ne_en7_b1)).other W28 (Or.inl ne_en7_b1)).other W31 (Or.inl ne_en7_b1)).other W34 (Or.inl ne_en7_b1)).other W37 (Or.inl ne_en7_b1)).other W40 (Or.inl ne_en7_b1)).other W43 (Or.inl ne_en7_b1)).other W46 (Or.inl ne_en7_b1)).other W49 (Or.inl ne_en7_b1))) hZ (hw _ (List.mem_of_getElem? (i := 41) rfl)) (hw _ (List.mem_of_getElem? (i := 3) rfl)) (by decide) (by decide)) q89a q89c (g := (mkF m 146 #[.val (.int p1), .val (.ref b1), .val (.int (7 : Int32)), .val (.int (0 : Int32))] [(.ref en7)])) rfl (by rw [hml]; rfl) (Steps.refl _) (argsL := []) (rest := []) (lenOf pd_1 rfl) rfl (by show 2 * 0 + _ ≤ _; exact Nat.le_of_eq rfl) (hb hby at_146) (fun _ _ => ⟨rfl, e49, (by decide : 1 + 0 ≤ _), (by decide : 16 + 0 ≤ _)⟩)
    dsimp only [Pt.U, Pt.locs, Pt.cells, Pt.slots] at X89 l89 y89 z89 st89 hQ89
    subst l89 y89 z89
    obtain ⟨rfl, N89q, e89⟩ := hQ89
    have N89 := Fr.app N49 N89q
    replace X89 : Stand p l e room_1 s m _ below meth c T89 _ 1 16 := X89
    refine own_go (fun t_ k => st89.trans k) ?_
    show WP p e below _ (T89.setTop (mkF m 149 #[.val (.int p1), .val (.ref b1), .val (.int (7 : Int32)), .val (.int (0 : Int32))] [(.int (0 : Int32))]))
    refine own_go (fun t_ k => XS.iloadN X89.here hx rfl (hb hby at_149) rfl k) ?_
    show WP p e below _ (T89.setTop (mkF m 150 #[.val (.int p1), .val (.ref b1), .val (.int (7 : Int32)), .val (.int (0 : Int32))] [(.int (0 : Int32)), (.int (0 : Int32))]))
    have hc150_90 : ((0 : Int32) = (0 : Int32)) := by decide
    refine own_go (fun t_ k => XS.icmpNo X89.here hx rfl (hb hby at_150) rfl (teq hc150_90).2 k) ?_
    show WP p e below _ (T89.setTop (mkF m 153 #[.val (.int p1), .val (.ref b1), .val (.int (7 : Int32)), .val (.int (0 : Int32))] []))
    refine own_go (fun t_ k => XS.iconst X89.here hx rfl (hb hby at_153) k) ?_
    show WP p e below _ (T89.setTop (mkF m 154 #[.val (.int p1), .val (.ref b1), .val (.int (7 : Int32)), .val (.int (0 : Int32))] [(.int (1 : Int32))]))
    refine own_go (fun t_ k => XS.goto X89.here hx rfl (pc0 := 154) (pc' := 158) rfl (hb hby at_154) (by decide) (by decide) k) ?_
    show WP p e below _ (T89.setTop (mkF m 158 #[.val (.int p1), .val (.ref b1), .val (.int (7 : Int32)), .val (.int (0 : Int32))] [(.int (1 : Int32))]))
    exact own_retZ X89 hx Bd.notSynchronized Bd.returns (hb hby at_158) (by decide) (show Q0 n0 _ _ _ from ⟨rfl, N89⟩) (by decide) (by decide)
  · subst hs51
    show WP p e below _ (T49.setTop (mkF m 120 #[.val (.int p1), .val (.ref b1), .val (.int (8 : Int32)), .unset] []))
    refine own_go (fun t_ k => XS.iloadN X49.here hx rfl (hb hby at_120) rfl k) ?_
    show WP p e below _ (T49.setTop (mkF m 121 #[.val (.int p1), .val (.ref b1), .val (.int (8 : Int32)), .unset] [(.int (8 : Int32))]))
    refine own_go (fun t_ k => XS.iconst X49.here hx rfl (hb hby at_121) k) ?_
    show WP p e below _ (T49.setTop (mkF m 122 #[.val (.int p1), .val (.ref b1), .val (.int (8 : Int32)), .unset] [(.int (1 : Int32)), (.int (8 : Int32))]))
    have hc122_91 : ¬ ((8 : Int32) = (1 : Int32)) := by decide
    refine own_go (fun t_ k => XS.icmpNo X49.here hx rfl (hb hby at_122) rfl (feq hc122_91).1 k) ?_
    show WP p e below _ (T49.setTop (mkF m 125 #[.val (.int p1), .val (.ref b1), .val (.int (8 : Int32)), .unset] []))
    refine own_go (fun t_ k => XS.iloadN X49.here hx rfl (hb hby at_125) rfl k) ?_
    show WP p e below _ (T49.setTop (mkF m 126 #[.val (.int p1), .val (.ref b1), .val (.int (8 : Int32)), .unset] [(.int (8 : Int32))]))
    refine own_go (fun t_ k => XS.bipush X49.here hx rfl (hb hby at_126) k) ?_
    show WP p e below _ (T49.setTop (mkF m 128 #[.val (.int p1), .val (.ref b1), .val (.int (8 : Int32)), .unset] [(.int (9 : Int32)), (.int (8 : Int32))]))
    have hc128_92 : ((8 : Int32) < (9 : Int32)) := by decide
    refine own_go (fun t_ k => XS.icmpYes X49.here hx rfl (pc0 := 128) (pc' := 141) rfl (hb hby at_128) rfl (tlt hc128_92).1 (by decide) (by decide) k) ?_
    show WP p e below _ (T49.setTop (mkF m 141 #[.val (.int p1), .val (.ref b1), .val (.int (8 : Int32)), .unset] []))
    refine own_go (fun t_ k => XS.iconst X49.here hx rfl (hb hby at_141) k) ?_
    show WP p e below _ (T49.setTop (mkF m 142 #[.val (.int p1), .val (.ref b1), .val (.int (8 : Int32)), .unset] [(.int (0 : Int32))]))
    refine own_go (fun t_ k => XS.istoreN X49.here hx rfl (hb hby at_142) rfl (l' := #[.val (.int p1), .val (.ref b1), .val (.int (8 : Int32)), .val (.int (0 : Int32))]) rfl k) ?_
    show WP p e below _ (T49.setTop (mkF m 143 #[.val (.int p1), .val (.ref b1), .val (.int (8 : Int32)), .val (.int (0 : Int32))] []))
    refine own_go (fun t_ k => XS.aloadN X49.here hx rfl (hb hby at_143) rfl rfl k) ?_
    show WP p e below _ (T49.setTop (mkF m 144 #[.val (.int p1), .val (.ref b1), .val (.int (8 : Int32)), .val (.int (0 : Int32))] [(.ref b1)]))
    refine own_go (fun t_ k => XS.iloadN X49.here hx rfl (hb hby at_144) rfl k) ?_
    show WP p e below _ (T49.setTop (mkF m 145 #[.val (.int p1), .val (.ref b1), .val (.int (8 : Int32)), .val (.int (0 : Int32))] [(.int (8 : Int32)), (.ref b1)]))
    obtain ⟨cl93, Ar93, -, S93, M93, H93, -⟩ := id (V49)
    have hin93 : ¬ ((8 : Int32) < 0 ∨ cl93.slots.size ≤ ((8 : Int32)).toNatClampNeg) := inb_of S93 (⟨by decide, by decide⟩)
    refine own_go (fun t_ k => X49.aaload hx (j := (8 : Int32)) (v := (.ref en8)) (by rw [e49]; exact Ar93.1) (State.isArrayOf_alike hZ.alike Ar93.2.1) rfl Ar93.2.2 hin93 (H93.at hin93 rfl) (g := (mkF m 145 #[.val (.int p1), .val (.ref b1), .val (.int (8 : Int32)), .val (.int (0 : Int32))] [(.int (8 : Int32)), (.ref b1)])) rfl rfl (hb hby at_145) _ k) ?_
    show WP p e below _ (T49.setTop (mkF m 146 #[.val (.int p1), .val (.ref b1), .val (.int (8 : Int32)), .val (.int (0 : Int32))] [(.ref en8)]))
    obtain ⟨cq94, kq94, q94a, q94b, q94c⟩ := isOf (T := T49) hZ e49 (((((((((((((((((Een8.ext E1).wr W4).wr W7).wr W10).wr W13).wr W16).wr W19).wr W22).wr W25).wr W28).wr W31).wr W34).wr W37).wr W40).wr W43).wr W46).wr W49)
    obtain ⟨_, _, ⟨T94, L94, k94, n94⟩, -, X94, ⟨Lc94, hQ94, l94, y94, z94⟩, st94⟩ := X49.virtualBack hx (y := (⟨"com/example/prefold/prefold/passes/Node$Operator", "truth", "()Z"⟩ : MethodName)) (z := (⟨"com/example/prefold/prefold/passes/Node$Operator", "truth", "()Z"⟩ : MethodName)) hown (mvT hZ (hw _ (List.mem_of_getElem? (i := 37) rfl))) (mvT hZ (hw _ (List.mem_of_getElem? (i := 38) rfl))) (notFace_of_selects (args := #[]) (mvT hZ (hw _ (List.mem_of_getElem? (i := 40) rfl)))) (mvT hZ (hw _ (List.mem_of_getElem? (i := 40) rfl))) (mvT hZ (hw _ (List.mem_of_getElem? (i := 39) rfl))) (by decide) (backOf (W := 0) (rm1_8 l Z a0 hw [] en8 h49 n0 (((((((((((((((((Een8.ext E1).wr W4).wr W7).wr W10).wr W13).wr W16).wr W19).wr W22).wr W25).wr W28).wr W31).wr W34).wr W37).wr W40).wr W43).wr W46).wr W49) (((((((((((((((((Fen8.ext E1).other W4 (Or.inl ne_en8_b1)).other W7 (Or.inl ne_en8_b1)).other W10 (Or.inl ne_en8_b1)).other W13 (Or.inl ne_en8_b1)).other W16 (Or.inl ne_en8_b1)).other W19 (Or.inl ne_en8_b1)).other W22 (Or.inl ne_en8_b1)).other W25 (Or.inl ne_en8_b1)).other W28 (Or.inl ne_en8_b1)).other W31 (Or.inl ne_en8_b1)).other W34 (Or.inl ne_en8_b1)).other W37 (Or.inl ne_en8_b1)).other W40 (Or.inl ne_en8_b1)).other W43 (Or.inl ne_en8_b1)).other W46 (Or.inl ne_en8_b1)).other W49 (Or.inl ne_en8_b1))) hZ (hw _ (List.mem_of_getElem? (i := 41) rfl)) (hw _ (List.mem_of_getElem? (i := 3) rfl)) (by decide) (by decide)) q94a q94c (g := (mkF m 146 #[.val (.int p1), .val (.ref b1), .val (.int (8 : Int32)), .val (.int (0 : Int32))] [(.ref en8)])) rfl (by rw [hml]; rfl) (Steps.refl _) (argsL := []) (rest := []) (lenOf pd_1 rfl) rfl (by show 2 * 0 + _ ≤ _; exact Nat.le_of_eq rfl) (hb hby at_146) (fun _ _ => ⟨rfl, e49, (by decide : 1 + 0 ≤ _), (by decide : 16 + 0 ≤ _)⟩)
    dsimp only [Pt.U, Pt.locs, Pt.cells, Pt.slots] at X94 l94 y94 z94 st94 hQ94
    subst l94 y94 z94
    obtain ⟨rfl, N94q, e94⟩ := hQ94
    have N94 := Fr.app N49 N94q
    replace X94 : Stand p l e room_1 s m _ below meth c T94 _ 1 16 := X94
    refine own_go (fun t_ k => st94.trans k) ?_
    show WP p e below _ (T94.setTop (mkF m 149 #[.val (.int p1), .val (.ref b1), .val (.int (8 : Int32)), .val (.int (0 : Int32))] [(.int (0 : Int32))]))
    refine own_go (fun t_ k => XS.iloadN X94.here hx rfl (hb hby at_149) rfl k) ?_
    show WP p e below _ (T94.setTop (mkF m 150 #[.val (.int p1), .val (.ref b1), .val (.int (8 : Int32)), .val (.int (0 : Int32))] [(.int (0 : Int32)), (.int (0 : Int32))]))
    have hc150_95 : ((0 : Int32) = (0 : Int32)) := by decide
    refine own_go (fun t_ k => XS.icmpNo X94.here hx rfl (hb hby at_150) rfl (teq hc150_95).2 k) ?_
    show WP p e below _ (T94.setTop (mkF m 153 #[.val (.int p1), .val (.ref b1), .val (.int (8 : Int32)), .val (.int (0 : Int32))] []))
    refine own_go (fun t_ k => XS.iconst X94.here hx rfl (hb hby at_153) k) ?_
    show WP p e below _ (T94.setTop (mkF m 154 #[.val (.int p1), .val (.ref b1), .val (.int (8 : Int32)), .val (.int (0 : Int32))] [(.int (1 : Int32))]))
    refine own_go (fun t_ k => XS.goto X94.here hx rfl (pc0 := 154) (pc' := 158) rfl (hb hby at_154) (by decide) (by decide) k) ?_
    show WP p e below _ (T94.setTop (mkF m 158 #[.val (.int p1), .val (.ref b1), .val (.int (8 : Int32)), .val (.int (0 : Int32))] [(.int (1 : Int32))]))
    exact own_retZ X94 hx Bd.notSynchronized Bd.returns (hb hby at_158) (by decide) (show Q0 n0 _ _ _ from ⟨rfl, N94⟩) (by decide) (by decide)
  · subst hs51
    show WP p e below _ (T49.setTop (mkF m 120 #[.val (.int p1), .val (.ref b1), .val (.int (9 : Int32)), .unset] []))
    refine own_go (fun t_ k => XS.iloadN X49.here hx rfl (hb hby at_120) rfl k) ?_
    show WP p e below _ (T49.setTop (mkF m 121 #[.val (.int p1), .val (.ref b1), .val (.int (9 : Int32)), .unset] [(.int (9 : Int32))]))
    refine own_go (fun t_ k => XS.iconst X49.here hx rfl (hb hby at_121) k) ?_
    show WP p e below _ (T49.setTop (mkF m 122 #[.val (.int p1), .val (.ref b1), .val (.int (9 : Int32)), .unset] [(.int (1 : Int32)), (.int (9 : Int32))]))
    have hc122_96 : ¬ ((9 : Int32) = (1 : Int32)) := by decide
    refine own_go (fun t_ k => XS.icmpNo X49.here hx rfl (hb hby at_122) rfl (feq hc122_96).1 k) ?_
    show WP p e below _ (T49.setTop (mkF m 125 #[.val (.int p1), .val (.ref b1), .val (.int (9 : Int32)), .unset] []))
    refine own_go (fun t_ k => XS.iloadN X49.here hx rfl (hb hby at_125) rfl k) ?_
    show WP p e below _ (T49.setTop (mkF m 126 #[.val (.int p1), .val (.ref b1), .val (.int (9 : Int32)), .unset] [(.int (9 : Int32))]))
    refine own_go (fun t_ k => XS.bipush X49.here hx rfl (hb hby at_126) k) ?_
    show WP p e below _ (T49.setTop (mkF m 128 #[.val (.int p1), .val (.ref b1), .val (.int (9 : Int32)), .unset] [(.int (9 : Int32)), (.int (9 : Int32))]))
    have hc128_97 : ¬ ((9 : Int32) < (9 : Int32)) := by decide
    refine own_go (fun t_ k => XS.icmpNo X49.here hx rfl (hb hby at_128) rfl (flt hc128_97).1 k) ?_
    show WP p e below _ (T49.setTop (mkF m 131 #[.val (.int p1), .val (.ref b1), .val (.int (9 : Int32)), .unset] []))
    refine own_go (fun t_ k => XS.iloadN X49.here hx rfl (hb hby at_131) rfl k) ?_
    show WP p e below _ (T49.setTop (mkF m 132 #[.val (.int p1), .val (.ref b1), .val (.int (9 : Int32)), .unset] [(.int (9 : Int32))]))
    refine own_go (fun t_ k => XS.bipush X49.here hx rfl (hb hby at_132) k) ?_
    show WP p e below _ (T49.setTop (mkF m 134 #[.val (.int p1), .val (.ref b1), .val (.int (9 : Int32)), .unset] [(.int (14 : Int32)), (.int (9 : Int32))]))
    have hc134_98 : ¬ ((14 : Int32) < (9 : Int32)) := by decide
    refine own_go (fun t_ k => XS.icmpNo X49.here hx rfl (hb hby at_134) rfl (flt hc134_98).2.2.1 k) ?_
    show WP p e below _ (T49.setTop (mkF m 137 #[.val (.int p1), .val (.ref b1), .val (.int (9 : Int32)), .unset] []))
    refine own_go (fun t_ k => XS.iconst X49.here hx rfl (hb hby at_137) k) ?_
    show WP p e below _ (T49.setTop (mkF m 138 #[.val (.int p1), .val (.ref b1), .val (.int (9 : Int32)), .unset] [(.int (1 : Int32))]))
    refine own_go (fun t_ k => XS.goto X49.here hx rfl (pc0 := 138) (pc' := 142) rfl (hb hby at_138) (by decide) (by decide) k) ?_
    show WP p e below _ (T49.setTop (mkF m 142 #[.val (.int p1), .val (.ref b1), .val (.int (9 : Int32)), .unset] [(.int (1 : Int32))]))
    refine own_go (fun t_ k => XS.istoreN X49.here hx rfl (hb hby at_142) rfl (l' := #[.val (.int p1), .val (.ref b1), .val (.int (9 : Int32)), .val (.int (1 : Int32))]) rfl k) ?_
    show WP p e below _ (T49.setTop (mkF m 143 #[.val (.int p1), .val (.ref b1), .val (.int (9 : Int32)), .val (.int (1 : Int32))] []))
    refine own_go (fun t_ k => XS.aloadN X49.here hx rfl (hb hby at_143) rfl rfl k) ?_
    show WP p e below _ (T49.setTop (mkF m 144 #[.val (.int p1), .val (.ref b1), .val (.int (9 : Int32)), .val (.int (1 : Int32))] [(.ref b1)]))
    refine own_go (fun t_ k => XS.iloadN X49.here hx rfl (hb hby at_144) rfl k) ?_
    show WP p e below _ (T49.setTop (mkF m 145 #[.val (.int p1), .val (.ref b1), .val (.int (9 : Int32)), .val (.int (1 : Int32))] [(.int (9 : Int32)), (.ref b1)]))
    obtain ⟨cl99, Ar99, -, S99, M99, H99, -⟩ := id (V49)
    have hin99 : ¬ ((9 : Int32) < 0 ∨ cl99.slots.size ≤ ((9 : Int32)).toNatClampNeg) := inb_of S99 (⟨by decide, by decide⟩)
    refine own_go (fun t_ k => X49.aaload hx (j := (9 : Int32)) (v := (.ref en9)) (by rw [e49]; exact Ar99.1) (State.isArrayOf_alike hZ.alike Ar99.2.1) rfl Ar99.2.2 hin99 (H99.at hin99 rfl) (g := (mkF m 145 #[.val (.int p1), .val (.ref b1), .val (.int (9 : Int32)), .val (.int (1 : Int32))] [(.int (9 : Int32)), (.ref b1)])) rfl rfl (hb hby at_145) _ k) ?_
    show WP p e below _ (T49.setTop (mkF m 146 #[.val (.int p1), .val (.ref b1), .val (.int (9 : Int32)), .val (.int (1 : Int32))] [(.ref en9)]))
    obtain ⟨cq100, kq100, q100a, q100b, q100c⟩ := isOf (T := T49) hZ e49 (((((((((((((((((Een9.ext E1).wr W4).wr W7).wr W10).wr W13).wr W16).wr W19).wr W22).wr W25).wr W28).wr W31).wr W34).wr W37).wr W40).wr W43).wr W46).wr W49)
    obtain ⟨_, _, ⟨T100, L100, k100, n100⟩, -, X100, ⟨Lc100, hQ100, l100, y100, z100⟩, st100⟩ := X49.virtualBack hx (y := (⟨"com/example/prefold/prefold/passes/Node$Operator", "truth", "()Z"⟩ : MethodName)) (z := (⟨"com/example/prefold/prefold/passes/Node$Operator", "truth", "()Z"⟩ : MethodName)) hown (mvT hZ (hw _ (List.mem_of_getElem? (i := 37) rfl))) (mvT hZ (hw _ (List.mem_of_getElem? (i := 38) rfl))) (notFace_of_selects (args := #[]) (mvT hZ (hw _ (List.mem_of_getElem? (i := 40) rfl)))) (mvT hZ (hw _ (List.mem_of_getElem? (i := 40) rfl))) (mvT hZ (hw _ (List.mem_of_getElem? (i := 39) rfl))) (by decide) (backOf (W := 0) (rm1_9 l Z a0 hw [] en9 h49 n0 (((((((((((((((((Een9.ext E1).wr W4).wr W7).wr W10).wr W13).wr W16).wr W19).wr W22).wr W25).wr W28).wr W31).wr W34).wr W37).wr W40).wr W43).wr W46).wr W49) (((((((((((((((((Fen9.ext E1).other W4 (Or.inl ne_en9_b1)).other W7 (Or.inl ne_en9_b1)).other W10 (Or.inl ne_en9_b1)).other W13 (Or.inl ne_en9_b1)).other W16 (Or.inl ne_en9_b1)).other W19 (Or.inl ne_en9_b1)).other W22 (Or.inl ne_en9_b1)).other W25 (Or.inl ne_en9_b1)).other W28 (Or.inl ne_en9_b1)).other W31 (Or.inl ne_en9_b1)).other W34 (Or.inl ne_en9_b1)).other W37 (Or.inl ne_en9_b1)).other W40 (Or.inl ne_en9_b1)).other W43 (Or.inl ne_en9_b1)).other W46 (Or.inl ne_en9_b1)).other W49 (Or.inl ne_en9_b1))) hZ (hw _ (List.mem_of_getElem? (i := 41) rfl)) (hw _ (List.mem_of_getElem? (i := 3) rfl)) (by decide) (by decide)) q100a q100c (g := (mkF m 146 #[.val (.int p1), .val (.ref b1), .val (.int (9 : Int32)), .val (.int (1 : Int32))] [(.ref en9)])) rfl (by rw [hml]; rfl) (Steps.refl _) (argsL := []) (rest := []) (lenOf pd_1 rfl) rfl (by show 2 * 0 + _ ≤ _; exact Nat.le_of_eq rfl) (hb hby at_146) (fun _ _ => ⟨rfl, e49, (by decide : 1 + 0 ≤ _), (by decide : 16 + 0 ≤ _)⟩)
    dsimp only [Pt.U, Pt.locs, Pt.cells, Pt.slots] at X100 l100 y100 z100 st100 hQ100
    subst l100 y100 z100
    obtain ⟨rfl, N100q, e100⟩ := hQ100
    have N100 := Fr.app N49 N100q
    replace X100 : Stand p l e room_1 s m _ below meth c T100 _ 1 16 := X100
    refine own_go (fun t_ k => st100.trans k) ?_
    show WP p e below _ (T100.setTop (mkF m 149 #[.val (.int p1), .val (.ref b1), .val (.int (9 : Int32)), .val (.int (1 : Int32))] [(.int (1 : Int32))]))
    refine own_go (fun t_ k => XS.iloadN X100.here hx rfl (hb hby at_149) rfl k) ?_
    show WP p e below _ (T100.setTop (mkF m 150 #[.val (.int p1), .val (.ref b1), .val (.int (9 : Int32)), .val (.int (1 : Int32))] [(.int (1 : Int32)), (.int (1 : Int32))]))
    have hc150_101 : ((1 : Int32) = (1 : Int32)) := by decide
    refine own_go (fun t_ k => XS.icmpNo X100.here hx rfl (hb hby at_150) rfl (teq hc150_101).2 k) ?_
    show WP p e below _ (T100.setTop (mkF m 153 #[.val (.int p1), .val (.ref b1), .val (.int (9 : Int32)), .val (.int (1 : Int32))] []))
    refine own_go (fun t_ k => XS.iconst X100.here hx rfl (hb hby at_153) k) ?_
    show WP p e below _ (T100.setTop (mkF m 154 #[.val (.int p1), .val (.ref b1), .val (.int (9 : Int32)), .val (.int (1 : Int32))] [(.int (1 : Int32))]))
    refine own_go (fun t_ k => XS.goto X100.here hx rfl (pc0 := 154) (pc' := 158) rfl (hb hby at_154) (by decide) (by decide) k) ?_
    show WP p e below _ (T100.setTop (mkF m 158 #[.val (.int p1), .val (.ref b1), .val (.int (9 : Int32)), .val (.int (1 : Int32))] [(.int (1 : Int32))]))
    exact own_retZ X100 hx Bd.notSynchronized Bd.returns (hb hby at_158) (by decide) (show Q0 n0 _ _ _ from ⟨rfl, N100⟩) (by decide) (by decide)
  · subst hs51
    show WP p e below _ (T49.setTop (mkF m 120 #[.val (.int p1), .val (.ref b1), .val (.int (10 : Int32)), .unset] []))
    refine own_go (fun t_ k => XS.iloadN X49.here hx rfl (hb hby at_120) rfl k) ?_
    show WP p e below _ (T49.setTop (mkF m 121 #[.val (.int p1), .val (.ref b1), .val (.int (10 : Int32)), .unset] [(.int (10 : Int32))]))
    refine own_go (fun t_ k => XS.iconst X49.here hx rfl (hb hby at_121) k) ?_
    show WP p e below _ (T49.setTop (mkF m 122 #[.val (.int p1), .val (.ref b1), .val (.int (10 : Int32)), .unset] [(.int (1 : Int32)), (.int (10 : Int32))]))
    have hc122_102 : ¬ ((10 : Int32) = (1 : Int32)) := by decide
    refine own_go (fun t_ k => XS.icmpNo X49.here hx rfl (hb hby at_122) rfl (feq hc122_102).1 k) ?_
    show WP p e below _ (T49.setTop (mkF m 125 #[.val (.int p1), .val (.ref b1), .val (.int (10 : Int32)), .unset] []))
    refine own_go (fun t_ k => XS.iloadN X49.here hx rfl (hb hby at_125) rfl k) ?_
    show WP p e below _ (T49.setTop (mkF m 126 #[.val (.int p1), .val (.ref b1), .val (.int (10 : Int32)), .unset] [(.int (10 : Int32))]))
    refine own_go (fun t_ k => XS.bipush X49.here hx rfl (hb hby at_126) k) ?_
    show WP p e below _ (T49.setTop (mkF m 128 #[.val (.int p1), .val (.ref b1), .val (.int (10 : Int32)), .unset] [(.int (9 : Int32)), (.int (10 : Int32))]))
    have hc128_103 : ¬ ((10 : Int32) < (9 : Int32)) := by decide
    refine own_go (fun t_ k => XS.icmpNo X49.here hx rfl (hb hby at_128) rfl (flt hc128_103).1 k) ?_
    show WP p e below _ (T49.setTop (mkF m 131 #[.val (.int p1), .val (.ref b1), .val (.int (10 : Int32)), .unset] []))
    refine own_go (fun t_ k => XS.iloadN X49.here hx rfl (hb hby at_131) rfl k) ?_
    show WP p e below _ (T49.setTop (mkF m 132 #[.val (.int p1), .val (.ref b1), .val (.int (10 : Int32)), .unset] [(.int (10 : Int32))]))
    refine own_go (fun t_ k => XS.bipush X49.here hx rfl (hb hby at_132) k) ?_
    show WP p e below _ (T49.setTop (mkF m 134 #[.val (.int p1), .val (.ref b1), .val (.int (10 : Int32)), .unset] [(.int (14 : Int32)), (.int (10 : Int32))]))
    have hc134_104 : ¬ ((14 : Int32) < (10 : Int32)) := by decide
    refine own_go (fun t_ k => XS.icmpNo X49.here hx rfl (hb hby at_134) rfl (flt hc134_104).2.2.1 k) ?_
    show WP p e below _ (T49.setTop (mkF m 137 #[.val (.int p1), .val (.ref b1), .val (.int (10 : Int32)), .unset] []))
    refine own_go (fun t_ k => XS.iconst X49.here hx rfl (hb hby at_137) k) ?_
    show WP p e below _ (T49.setTop (mkF m 138 #[.val (.int p1), .val (.ref b1), .val (.int (10 : Int32)), .unset] [(.int (1 : Int32))]))
    refine own_go (fun t_ k => XS.goto X49.here hx rfl (pc0 := 138) (pc' := 142) rfl (hb hby at_138) (by decide) (by decide) k) ?_
    show WP p e below _ (T49.setTop (mkF m 142 #[.val (.int p1), .val (.ref b1), .val (.int (10 : Int32)), .unset] [(.int (1 : Int32))]))
    refine own_go (fun t_ k => XS.istoreN X49.here hx rfl (hb hby at_142) rfl (l' := #[.val (.int p1), .val (.ref b1), .val (.int (10 : Int32)), .val (.int (1 : Int32))]) rfl k) ?_
    show WP p e below _ (T49.setTop (mkF m 143 #[.val (.int p1), .val (.ref b1), .val (.int (10 : Int32)), .val (.int (1 : Int32))] []))
    refine own_go (fun t_ k => XS.aloadN X49.here hx rfl (hb hby at_143) rfl rfl k) ?_
    show WP p e below _ (T49.setTop (mkF m 144 #[.val (.int p1), .val (.ref b1), .val (.int (10 : Int32)), .val (.int (1 : Int32))] [(.ref b1)]))
    refine own_go (fun t_ k => XS.iloadN X49.here hx rfl (hb hby at_144) rfl k) ?_
    show WP p e below _ (T49.setTop (mkF m 145 #[.val (.int p1), .val (.ref b1), .val (.int (10 : Int32)), .val (.int (1 : Int32))] [(.int (10 : Int32)), (.ref b1)]))
    obtain ⟨cl105, Ar105, -, S105, M105, H105, -⟩ := id (V49)
    have hin105 : ¬ ((10 : Int32) < 0 ∨ cl105.slots.size ≤ ((10 : Int32)).toNatClampNeg) := inb_of S105 (⟨by decide, by decide⟩)
    refine own_go (fun t_ k => X49.aaload hx (j := (10 : Int32)) (v := (.ref en10)) (by rw [e49]; exact Ar105.1) (State.isArrayOf_alike hZ.alike Ar105.2.1) rfl Ar105.2.2 hin105 (H105.at hin105 rfl) (g := (mkF m 145 #[.val (.int p1), .val (.ref b1), .val (.int (10 : Int32)), .val (.int (1 : Int32))] [(.int (10 : Int32)), (.ref b1)])) rfl rfl (hb hby at_145) _ k) ?_
    show WP p e below _ (T49.setTop (mkF m 146 #[.val (.int p1), .val (.ref b1), .val (.int (10 : Int32)), .val (.int (1 : Int32))] [(.ref en10)]))
    obtain ⟨cq106, kq106, q106a, q106b, q106c⟩ := isOf (T := T49) hZ e49 (((((((((((((((((Een10.ext E1).wr W4).wr W7).wr W10).wr W13).wr W16).wr W19).wr W22).wr W25).wr W28).wr W31).wr W34).wr W37).wr W40).wr W43).wr W46).wr W49)
    obtain ⟨_, _, ⟨T106, L106, k106, n106⟩, -, X106, ⟨Lc106, hQ106, l106, y106, z106⟩, st106⟩ := X49.virtualBack hx (y := (⟨"com/example/prefold/prefold/passes/Node$Operator", "truth", "()Z"⟩ : MethodName)) (z := (⟨"com/example/prefold/prefold/passes/Node$Operator", "truth", "()Z"⟩ : MethodName)) hown (mvT hZ (hw _ (List.mem_of_getElem? (i := 37) rfl))) (mvT hZ (hw _ (List.mem_of_getElem? (i := 38) rfl))) (notFace_of_selects (args := #[]) (mvT hZ (hw _ (List.mem_of_getElem? (i := 40) rfl)))) (mvT hZ (hw _ (List.mem_of_getElem? (i := 40) rfl))) (mvT hZ (hw _ (List.mem_of_getElem? (i := 39) rfl))) (by decide) (backOf (W := 0) (rm1_10 l Z a0 hw [] en10 h49 n0 (((((((((((((((((Een10.ext E1).wr W4).wr W7).wr W10).wr W13).wr W16).wr W19).wr W22).wr W25).wr W28).wr W31).wr W34).wr W37).wr W40).wr W43).wr W46).wr W49) (((((((((((((((((Fen10.ext E1).other W4 (Or.inl ne_en10_b1)).other W7 (Or.inl ne_en10_b1)).other W10 (Or.inl ne_en10_b1)).other W13 (Or.inl ne_en10_b1)).other W16 (Or.inl ne_en10_b1)).other W19 (Or.inl ne_en10_b1)).other W22 (Or.inl ne_en10_b1)).other W25 (Or.inl ne_en10_b1)).other W28 (Or.inl ne_en10_b1)).other W31 (Or.inl ne_en10_b1)).other W34 (Or.inl ne_en10_b1)).other W37 (Or.inl ne_en10_b1)).other W40 (Or.inl ne_en10_b1)).other W43 (Or.inl ne_en10_b1)).other W46 (Or.inl ne_en10_b1)).other W49 (Or.inl ne_en10_b1))) hZ (hw _ (List.mem_of_getElem? (i := 41) rfl)) (hw _ (List.mem_of_getElem? (i := 3) rfl)) (by decide) (by decide)) q106a q106c (g := (mkF m 146 #[.val (.int p1), .val (.ref b1), .val (.int (10 : Int32)), .val (.int (1 : Int32))] [(.ref en10)])) rfl (by rw [hml]; rfl) (Steps.refl _) (argsL := []) (rest := []) (lenOf pd_1 rfl) rfl (by show 2 * 0 + _ ≤ _; exact Nat.le_of_eq rfl) (hb hby at_146) (fun _ _ => ⟨rfl, e49, (by decide : 1 + 0 ≤ _), (by decide : 16 + 0 ≤ _)⟩)
    dsimp only [Pt.U, Pt.locs, Pt.cells, Pt.slots] at X106 l106 y106 z106 st106 hQ106
    subst l106 y106 z106
    obtain ⟨rfl, N106q, e106⟩ := hQ106
    have N106 := Fr.app N49 N106q
    replace X106 : Stand p l e room_1 s m _ below meth c T106 _ 1 16 := X106
    refine own_go (fun t_ k => st106.trans k) ?_
    show WP p e below _ (T106.setTop (mkF m 149 #[.val (.int p1), .val (.ref b1), .val (.int (10 : Int32)), .val (.int (1 : Int32))] [(.int (1 : Int32))]))
    refine own_go (fun t_ k => XS.iloadN X106.here hx rfl (hb hby at_149) rfl k) ?_
    show WP p e below _ (T106.setTop (mkF m 150 #[.val (.int p1), .val (.ref b1), .val (.int (10 : Int32)), .val (.int (1 : Int32))] [(.int (1 : Int32)), (.int (1 : Int32))]))
    have hc150_107 : ((1 : Int32) = (1 : Int32)) := by decide
    refine own_go (fun t_ k => XS.icmpNo X106.here hx rfl (hb hby at_150) rfl (teq hc150_107).2 k) ?_
    show WP p e below _ (T106.setTop (mkF m 153 #[.val (.int p1), .val (.ref b1), .val (.int (10 : Int32)), .val (.int (1 : Int32))] []))
    refine own_go (fun t_ k => XS.iconst X106.here hx rfl (hb hby at_153) k) ?_
    show WP p e below _ (T106.setTop (mkF m 154 #[.val (.int p1), .val (.ref b1), .val (.int (10 : Int32)), .val (.int (1 : Int32))] [(.int (1 : Int32))]))
    refine own_go (fun t_ k => XS.goto X106.here hx rfl (pc0 := 154) (pc' := 158) rfl (hb hby at_154) (by decide) (by decide) k) ?_
    show WP p e below _ (T106.setTop (mkF m 158 #[.val (.int p1), .val (.ref b1), .val (.int (10 : Int32)), .val (.int (1 : Int32))] [(.int (1 : Int32))]))
    exact own_retZ X106 hx Bd.notSynchronized Bd.returns (hb hby at_158) (by decide) (show Q0 n0 _ _ _ from ⟨rfl, N106⟩) (by decide) (by decide)
  · subst hs51
    show WP p e below _ (T49.setTop (mkF m 120 #[.val (.int p1), .val (.ref b1), .val (.int (11 : Int32)), .unset] []))
    refine own_go (fun t_ k => XS.iloadN X49.here hx rfl (hb hby at_120) rfl k) ?_
    show WP p e below _ (T49.setTop (mkF m 121 #[.val (.int p1), .val (.ref b1), .val (.int (11 : Int32)), .unset] [(.int (11 : Int32))]))
    refine own_go (fun t_ k => XS.iconst X49.here hx rfl (hb hby at_121) k) ?_
    show WP p e below _ (T49.setTop (mkF m 122 #[.val (.int p1), .val (.ref b1), .val (.int (11 : Int32)), .unset] [(.int (1 : Int32)), (.int (11 : Int32))]))
    have hc122_108 : ¬ ((11 : Int32) = (1 : Int32)) := by decide
    refine own_go (fun t_ k => XS.icmpNo X49.here hx rfl (hb hby at_122) rfl (feq hc122_108).1 k) ?_
    show WP p e below _ (T49.setTop (mkF m 125 #[.val (.int p1), .val (.ref b1), .val (.int (11 : Int32)), .unset] []))
    refine own_go (fun t_ k => XS.iloadN X49.here hx rfl (hb hby at_125) rfl k) ?_
    show WP p e below _ (T49.setTop (mkF m 126 #[.val (.int p1), .val (.ref b1), .val (.int (11 : Int32)), .unset] [(.int (11 : Int32))]))
    refine own_go (fun t_ k => XS.bipush X49.here hx rfl (hb hby at_126) k) ?_
    show WP p e below _ (T49.setTop (mkF m 128 #[.val (.int p1), .val (.ref b1), .val (.int (11 : Int32)), .unset] [(.int (9 : Int32)), (.int (11 : Int32))]))
    have hc128_109 : ¬ ((11 : Int32) < (9 : Int32)) := by decide
    refine own_go (fun t_ k => XS.icmpNo X49.here hx rfl (hb hby at_128) rfl (flt hc128_109).1 k) ?_
    show WP p e below _ (T49.setTop (mkF m 131 #[.val (.int p1), .val (.ref b1), .val (.int (11 : Int32)), .unset] []))
    refine own_go (fun t_ k => XS.iloadN X49.here hx rfl (hb hby at_131) rfl k) ?_
    show WP p e below _ (T49.setTop (mkF m 132 #[.val (.int p1), .val (.ref b1), .val (.int (11 : Int32)), .unset] [(.int (11 : Int32))]))
    refine own_go (fun t_ k => XS.bipush X49.here hx rfl (hb hby at_132) k) ?_
    show WP p e below _ (T49.setTop (mkF m 134 #[.val (.int p1), .val (.ref b1), .val (.int (11 : Int32)), .unset] [(.int (14 : Int32)), (.int (11 : Int32))]))
    have hc134_110 : ¬ ((14 : Int32) < (11 : Int32)) := by decide
    refine own_go (fun t_ k => XS.icmpNo X49.here hx rfl (hb hby at_134) rfl (flt hc134_110).2.2.1 k) ?_
    show WP p e below _ (T49.setTop (mkF m 137 #[.val (.int p1), .val (.ref b1), .val (.int (11 : Int32)), .unset] []))
    refine own_go (fun t_ k => XS.iconst X49.here hx rfl (hb hby at_137) k) ?_
    show WP p e below _ (T49.setTop (mkF m 138 #[.val (.int p1), .val (.ref b1), .val (.int (11 : Int32)), .unset] [(.int (1 : Int32))]))
    refine own_go (fun t_ k => XS.goto X49.here hx rfl (pc0 := 138) (pc' := 142) rfl (hb hby at_138) (by decide) (by decide) k) ?_
    show WP p e below _ (T49.setTop (mkF m 142 #[.val (.int p1), .val (.ref b1), .val (.int (11 : Int32)), .unset] [(.int (1 : Int32))]))
    refine own_go (fun t_ k => XS.istoreN X49.here hx rfl (hb hby at_142) rfl (l' := #[.val (.int p1), .val (.ref b1), .val (.int (11 : Int32)), .val (.int (1 : Int32))]) rfl k) ?_
    show WP p e below _ (T49.setTop (mkF m 143 #[.val (.int p1), .val (.ref b1), .val (.int (11 : Int32)), .val (.int (1 : Int32))] []))
    refine own_go (fun t_ k => XS.aloadN X49.here hx rfl (hb hby at_143) rfl rfl k) ?_
    show WP p e below _ (T49.setTop (mkF m 144 #[.val (.int p1), .val (.ref b1), .val (.int (11 : Int32)), .val (.int (1 : Int32))] [(.ref b1)]))
    refine own_go (fun t_ k => XS.iloadN X49.here hx rfl (hb hby at_144) rfl k) ?_
    show WP p e below _ (T49.setTop (mkF m 145 #[.val (.int p1), .val (.ref b1), .val (.int (11 : Int32)), .val (.int (1 : Int32))] [(.int (11 : Int32)), (.ref b1)]))
    obtain ⟨cl111, Ar111, -, S111, M111, H111, -⟩ := id (V49)
    have hin111 : ¬ ((11 : Int32) < 0 ∨ cl111.slots.size ≤ ((11 : Int32)).toNatClampNeg) := inb_of S111 (⟨by decide, by decide⟩)
    refine own_go (fun t_ k => X49.aaload hx (j := (11 : Int32)) (v := (.ref en11)) (by rw [e49]; exact Ar111.1) (State.isArrayOf_alike hZ.alike Ar111.2.1) rfl Ar111.2.2 hin111 (H111.at hin111 rfl) (g := (mkF m 145 #[.val (.int p1), .val (.ref b1), .val (.int (11 : Int32)), .val (.int (1 : Int32))] [(.int (11 : Int32)), (.ref b1)])) rfl rfl (hb hby at_145) _ k) ?_
    show WP p e below _ (T49.setTop (mkF m 146 #[.val (.int p1), .val (.ref b1), .val (.int (11 : Int32)), .val (.int (1 : Int32))] [(.ref en11)]))
    obtain ⟨cq112, kq112, q112a, q112b, q112c⟩ := isOf (T := T49) hZ e49 (((((((((((((((((Een11.ext E1).wr W4).wr W7).wr W10).wr W13).wr W16).wr W19).wr W22).wr W25).wr W28).wr W31).wr W34).wr W37).wr W40).wr W43).wr W46).wr W49)
    obtain ⟨_, _, ⟨T112, L112, k112, n112⟩, -, X112, ⟨Lc112, hQ112, l112, y112, z112⟩, st112⟩ := X49.virtualBack hx (y := (⟨"com/example/prefold/prefold/passes/Node$Operator", "truth", "()Z"⟩ : MethodName)) (z := (⟨"com/example/prefold/prefold/passes/Node$Operator", "truth", "()Z"⟩ : MethodName)) hown (mvT hZ (hw _ (List.mem_of_getElem? (i := 37) rfl))) (mvT hZ (hw _ (List.mem_of_getElem? (i := 38) rfl))) (notFace_of_selects (args := #[]) (mvT hZ (hw _ (List.mem_of_getElem? (i := 40) rfl)))) (mvT hZ (hw _ (List.mem_of_getElem? (i := 40) rfl))) (mvT hZ (hw _ (List.mem_of_getElem? (i := 39) rfl))) (by decide) (backOf (W := 0) (rm1_11 l Z a0 hw [] en11 h49 n0 (((((((((((((((((Een11.ext E1).wr W4).wr W7).wr W10).wr W13).wr W16).wr W19).wr W22).wr W25).wr W28).wr W31).wr W34).wr W37).wr W40).wr W43).wr W46).wr W49) (((((((((((((((((Fen11.ext E1).other W4 (Or.inl ne_en11_b1)).other W7 (Or.inl ne_en11_b1)).other W10 (Or.inl ne_en11_b1)).other W13 (Or.inl ne_en11_b1)).other W16 (Or.inl ne_en11_b1)).other W19 (Or.inl ne_en11_b1)).other W22 (Or.inl ne_en11_b1)).other W25 (Or.inl ne_en11_b1)).other W28 (Or.inl ne_en11_b1)).other W31 (Or.inl ne_en11_b1)).other W34 (Or.inl ne_en11_b1)).other W37 (Or.inl ne_en11_b1)).other W40 (Or.inl ne_en11_b1)).other W43 (Or.inl ne_en11_b1)).other W46 (Or.inl ne_en11_b1)).other W49 (Or.inl ne_en11_b1))) hZ (hw _ (List.mem_of_getElem? (i := 41) rfl)) (hw _ (List.mem_of_getElem? (i := 3) rfl)) (by decide) (by decide)) q112a q112c (g := (mkF m 146 #[.val (.int p1), .val (.ref b1), .val (.int (11 : Int32)), .val (.int (1 : Int32))] [(.ref en11)])) rfl (by rw [hml]; rfl) (Steps.refl _) (argsL := []) (rest := []) (lenOf pd_1 rfl) rfl (by show 2 * 0 + _ ≤ _; exact Nat.le_of_eq rfl) (hb hby at_146) (fun _ _ => ⟨rfl, e49, (by decide : 1 + 0 ≤ _), (by decide : 16 + 0 ≤ _)⟩)
    dsimp only [Pt.U, Pt.locs, Pt.cells, Pt.slots] at X112 l112 y112 z112 st112 hQ112
    subst l112 y112 z112
    obtain ⟨rfl, N112q, e112⟩ := hQ112
    have N112 := Fr.app N49 N112q
    replace X112 : Stand p l e room_1 s m _ below meth c T112 _ 1 16 := X112
    refine own_go (fun t_ k => st112.trans k) ?_
    show WP p e below _ (T112.setTop (mkF m 149 #[.val (.int p1), .val (.ref b1), .val (.int (11 : Int32)), .val (.int (1 : Int32))] [(.int (1 : Int32))]))
    refine own_go (fun t_ k => XS.iloadN X112.here hx rfl (hb hby at_149) rfl k) ?_
    show WP p e below _ (T112.setTop (mkF m 150 #[.val (.int p1), .val (.ref b1), .val (.int (11 : Int32)), .val (.int (1 : Int32))] [(.int (1 : Int32)), (.int (1 : Int32))]))
    have hc150_113 : ((1 : Int32) = (1 : Int32)) := by decide
    refine own_go (fun t_ k => XS.icmpNo X112.here hx rfl (hb hby at_150) rfl (teq hc150_113).2 k) ?_
    show WP p e below _ (T112.setTop (mkF m 153 #[.val (.int p1), .val (.ref b1), .val (.int (11 : Int32)), .val (.int (1 : Int32))] []))
    refine own_go (fun t_ k => XS.iconst X112.here hx rfl (hb hby at_153) k) ?_
    show WP p e below _ (T112.setTop (mkF m 154 #[.val (.int p1), .val (.ref b1), .val (.int (11 : Int32)), .val (.int (1 : Int32))] [(.int (1 : Int32))]))
    refine own_go (fun t_ k => XS.goto X112.here hx rfl (pc0 := 154) (pc' := 158) rfl (hb hby at_154) (by decide) (by decide) k) ?_
    show WP p e below _ (T112.setTop (mkF m 158 #[.val (.int p1), .val (.ref b1), .val (.int (11 : Int32)), .val (.int (1 : Int32))] [(.int (1 : Int32))]))
    exact own_retZ X112 hx Bd.notSynchronized Bd.returns (hb hby at_158) (by decide) (show Q0 n0 _ _ _ from ⟨rfl, N112⟩) (by decide) (by decide)
  · subst hs51
    show WP p e below _ (T49.setTop (mkF m 120 #[.val (.int p1), .val (.ref b1), .val (.int (12 : Int32)), .unset] []))
    refine own_go (fun t_ k => XS.iloadN X49.here hx rfl (hb hby at_120) rfl k) ?_
    show WP p e below _ (T49.setTop (mkF m 121 #[.val (.int p1), .val (.ref b1), .val (.int (12 : Int32)), .unset] [(.int (12 : Int32))]))
    refine own_go (fun t_ k => XS.iconst X49.here hx rfl (hb hby at_121) k) ?_
    show WP p e below _ (T49.setTop (mkF m 122 #[.val (.int p1), .val (.ref b1), .val (.int (12 : Int32)), .unset] [(.int (1 : Int32)), (.int (12 : Int32))]))
    have hc122_114 : ¬ ((12 : Int32) = (1 : Int32)) := by decide
    refine own_go (fun t_ k => XS.icmpNo X49.here hx rfl (hb hby at_122) rfl (feq hc122_114).1 k) ?_
    show WP p e below _ (T49.setTop (mkF m 125 #[.val (.int p1), .val (.ref b1), .val (.int (12 : Int32)), .unset] []))
    refine own_go (fun t_ k => XS.iloadN X49.here hx rfl (hb hby at_125) rfl k) ?_
    show WP p e below _ (T49.setTop (mkF m 126 #[.val (.int p1), .val (.ref b1), .val (.int (12 : Int32)), .unset] [(.int (12 : Int32))]))
    refine own_go (fun t_ k => XS.bipush X49.here hx rfl (hb hby at_126) k) ?_
    show WP p e below _ (T49.setTop (mkF m 128 #[.val (.int p1), .val (.ref b1), .val (.int (12 : Int32)), .unset] [(.int (9 : Int32)), (.int (12 : Int32))]))
    have hc128_115 : ¬ ((12 : Int32) < (9 : Int32)) := by decide
    refine own_go (fun t_ k => XS.icmpNo X49.here hx rfl (hb hby at_128) rfl (flt hc128_115).1 k) ?_
    show WP p e below _ (T49.setTop (mkF m 131 #[.val (.int p1), .val (.ref b1), .val (.int (12 : Int32)), .unset] []))
    refine own_go (fun t_ k => XS.iloadN X49.here hx rfl (hb hby at_131) rfl k) ?_
    show WP p e below _ (T49.setTop (mkF m 132 #[.val (.int p1), .val (.ref b1), .val (.int (12 : Int32)), .unset] [(.int (12 : Int32))]))
    refine own_go (fun t_ k => XS.bipush X49.here hx rfl (hb hby at_132) k) ?_
    show WP p e below _ (T49.setTop (mkF m 134 #[.val (.int p1), .val (.ref b1), .val (.int (12 : Int32)), .unset] [(.int (14 : Int32)), (.int (12 : Int32))]))
    have hc134_116 : ¬ ((14 : Int32) < (12 : Int32)) := by decide
    refine own_go (fun t_ k => XS.icmpNo X49.here hx rfl (hb hby at_134) rfl (flt hc134_116).2.2.1 k) ?_
    show WP p e below _ (T49.setTop (mkF m 137 #[.val (.int p1), .val (.ref b1), .val (.int (12 : Int32)), .unset] []))
    refine own_go (fun t_ k => XS.iconst X49.here hx rfl (hb hby at_137) k) ?_
    show WP p e below _ (T49.setTop (mkF m 138 #[.val (.int p1), .val (.ref b1), .val (.int (12 : Int32)), .unset] [(.int (1 : Int32))]))
    refine own_go (fun t_ k => XS.goto X49.here hx rfl (pc0 := 138) (pc' := 142) rfl (hb hby at_138) (by decide) (by decide) k) ?_
    show WP p e below _ (T49.setTop (mkF m 142 #[.val (.int p1), .val (.ref b1), .val (.int (12 : Int32)), .unset] [(.int (1 : Int32))]))
    refine own_go (fun t_ k => XS.istoreN X49.here hx rfl (hb hby at_142) rfl (l' := #[.val (.int p1), .val (.ref b1), .val (.int (12 : Int32)), .val (.int (1 : Int32))]) rfl k) ?_
    show WP p e below _ (T49.setTop (mkF m 143 #[.val (.int p1), .val (.ref b1), .val (.int (12 : Int32)), .val (.int (1 : Int32))] []))
    refine own_go (fun t_ k => XS.aloadN X49.here hx rfl (hb hby at_143) rfl rfl k) ?_
    show WP p e below _ (T49.setTop (mkF m 144 #[.val (.int p1), .val (.ref b1), .val (.int (12 : Int32)), .val (.int (1 : Int32))] [(.ref b1)]))
    refine own_go (fun t_ k => XS.iloadN X49.here hx rfl (hb hby at_144) rfl k) ?_
    show WP p e below _ (T49.setTop (mkF m 145 #[.val (.int p1), .val (.ref b1), .val (.int (12 : Int32)), .val (.int (1 : Int32))] [(.int (12 : Int32)), (.ref b1)]))
    obtain ⟨cl117, Ar117, -, S117, M117, H117, -⟩ := id (V49)
    have hin117 : ¬ ((12 : Int32) < 0 ∨ cl117.slots.size ≤ ((12 : Int32)).toNatClampNeg) := inb_of S117 (⟨by decide, by decide⟩)
    refine own_go (fun t_ k => X49.aaload hx (j := (12 : Int32)) (v := (.ref en12)) (by rw [e49]; exact Ar117.1) (State.isArrayOf_alike hZ.alike Ar117.2.1) rfl Ar117.2.2 hin117 (H117.at hin117 rfl) (g := (mkF m 145 #[.val (.int p1), .val (.ref b1), .val (.int (12 : Int32)), .val (.int (1 : Int32))] [(.int (12 : Int32)), (.ref b1)])) rfl rfl (hb hby at_145) _ k) ?_
    show WP p e below _ (T49.setTop (mkF m 146 #[.val (.int p1), .val (.ref b1), .val (.int (12 : Int32)), .val (.int (1 : Int32))] [(.ref en12)]))
    obtain ⟨cq118, kq118, q118a, q118b, q118c⟩ := isOf (T := T49) hZ e49 (((((((((((((((((Een12.ext E1).wr W4).wr W7).wr W10).wr W13).wr W16).wr W19).wr W22).wr W25).wr W28).wr W31).wr W34).wr W37).wr W40).wr W43).wr W46).wr W49)
    obtain ⟨_, _, ⟨T118, L118, k118, n118⟩, -, X118, ⟨Lc118, hQ118, l118, y118, z118⟩, st118⟩ := X49.virtualBack hx (y := (⟨"com/example/prefold/prefold/passes/Node$Operator", "truth", "()Z"⟩ : MethodName)) (z := (⟨"com/example/prefold/prefold/passes/Node$Operator", "truth", "()Z"⟩ : MethodName)) hown (mvT hZ (hw _ (List.mem_of_getElem? (i := 37) rfl))) (mvT hZ (hw _ (List.mem_of_getElem? (i := 38) rfl))) (notFace_of_selects (args := #[]) (mvT hZ (hw _ (List.mem_of_getElem? (i := 40) rfl)))) (mvT hZ (hw _ (List.mem_of_getElem? (i := 40) rfl))) (mvT hZ (hw _ (List.mem_of_getElem? (i := 39) rfl))) (by decide) (backOf (W := 0) (rm1_12 l Z a0 hw [] en12 h49 n0 (((((((((((((((((Een12.ext E1).wr W4).wr W7).wr W10).wr W13).wr W16).wr W19).wr W22).wr W25).wr W28).wr W31).wr W34).wr W37).wr W40).wr W43).wr W46).wr W49) (((((((((((((((((Fen12.ext E1).other W4 (Or.inl ne_en12_b1)).other W7 (Or.inl ne_en12_b1)).other W10 (Or.inl ne_en12_b1)).other W13 (Or.inl ne_en12_b1)).other W16 (Or.inl ne_en12_b1)).other W19 (Or.inl ne_en12_b1)).other W22 (Or.inl ne_en12_b1)).other W25 (Or.inl ne_en12_b1)).other W28 (Or.inl ne_en12_b1)).other W31 (Or.inl ne_en12_b1)).other W34 (Or.inl ne_en12_b1)).other W37 (Or.inl ne_en12_b1)).other W40 (Or.inl ne_en12_b1)).other W43 (Or.inl ne_en12_b1)).other W46 (Or.inl ne_en12_b1)).other W49 (Or.inl ne_en12_b1))) hZ (hw _ (List.mem_of_getElem? (i := 41) rfl)) (hw _ (List.mem_of_getElem? (i := 3) rfl)) (by decide) (by decide)) q118a q118c (g := (mkF m 146 #[.val (.int p1), .val (.ref b1), .val (.int (12 : Int32)), .val (.int (1 : Int32))] [(.ref en12)])) rfl (by rw [hml]; rfl) (Steps.refl _) (argsL := []) (rest := []) (lenOf pd_1 rfl) rfl (by show 2 * 0 + _ ≤ _; exact Nat.le_of_eq rfl) (hb hby at_146) (fun _ _ => ⟨rfl, e49, (by decide : 1 + 0 ≤ _), (by decide : 16 + 0 ≤ _)⟩)
    dsimp only [Pt.U, Pt.locs, Pt.cells, Pt.slots] at X118 l118 y118 z118 st118 hQ118
    subst l118 y118 z118
    obtain ⟨rfl, N118q, e118⟩ := hQ118
    have N118 := Fr.app N49 N118q
    replace X118 : Stand p l e room_1 s m _ below meth c T118 _ 1 16 := X118
    refine own_go (fun t_ k => st118.trans k) ?_
    show WP p e below _ (T118.setTop (mkF m 149 #[.val (.int p1), .val (.ref b1), .val (.int (12 : Int32)), .val (.int (1 : Int32))] [(.int (1 : Int32))]))
    refine own_go (fun t_ k => XS.iloadN X118.here hx rfl (hb hby at_149) rfl k) ?_
    show WP p e below _ (T118.setTop (mkF m 150 #[.val (.int p1), .val (.ref b1), .val (.int (12 : Int32)), .val (.int (1 : Int32))] [(.int (1 : Int32)), (.int (1 : Int32))]))
    have hc150_119 : ((1 : Int32) = (1 : Int32)) := by decide
    refine own_go (fun t_ k => XS.icmpNo X118.here hx rfl (hb hby at_150) rfl (teq hc150_119).2 k) ?_
    show WP p e below _ (T118.setTop (mkF m 153 #[.val (.int p1), .val (.ref b1), .val (.int (12 : Int32)), .val (.int (1 : Int32))] []))
    refine own_go (fun t_ k => XS.iconst X118.here hx rfl (hb hby at_153) k) ?_
    show WP p e below _ (T118.setTop (mkF m 154 #[.val (.int p1), .val (.ref b1), .val (.int (12 : Int32)), .val (.int (1 : Int32))] [(.int (1 : Int32))]))
    refine own_go (fun t_ k => XS.goto X118.here hx rfl (pc0 := 154) (pc' := 158) rfl (hb hby at_154) (by decide) (by decide) k) ?_
    show WP p e below _ (T118.setTop (mkF m 158 #[.val (.int p1), .val (.ref b1), .val (.int (12 : Int32)), .val (.int (1 : Int32))] [(.int (1 : Int32))]))
    exact own_retZ X118 hx Bd.notSynchronized Bd.returns (hb hby at_158) (by decide) (show Q0 n0 _ _ _ from ⟨rfl, N118⟩) (by decide) (by decide)
  · subst hs51
    show WP p e below _ (T49.setTop (mkF m 120 #[.val (.int p1), .val (.ref b1), .val (.int (13 : Int32)), .unset] []))
    refine own_go (fun t_ k => XS.iloadN X49.here hx rfl (hb hby at_120) rfl k) ?_
    show WP p e below _ (T49.setTop (mkF m 121 #[.val (.int p1), .val (.ref b1), .val (.int (13 : Int32)), .unset] [(.int (13 : Int32))]))
    refine own_go (fun t_ k => XS.iconst X49.here hx rfl (hb hby at_121) k) ?_
    show WP p e below _ (T49.setTop (mkF m 122 #[.val (.int p1), .val (.ref b1), .val (.int (13 : Int32)), .unset] [(.int (1 : Int32)), (.int (13 : Int32))]))
    have hc122_120 : ¬ ((13 : Int32) = (1 : Int32)) := by decide
    refine own_go (fun t_ k => XS.icmpNo X49.here hx rfl (hb hby at_122) rfl (feq hc122_120).1 k) ?_
    show WP p e below _ (T49.setTop (mkF m 125 #[.val (.int p1), .val (.ref b1), .val (.int (13 : Int32)), .unset] []))
    refine own_go (fun t_ k => XS.iloadN X49.here hx rfl (hb hby at_125) rfl k) ?_
    show WP p e below _ (T49.setTop (mkF m 126 #[.val (.int p1), .val (.ref b1), .val (.int (13 : Int32)), .unset] [(.int (13 : Int32))]))
    refine own_go (fun t_ k => XS.bipush X49.here hx rfl (hb hby at_126) k) ?_
    show WP p e below _ (T49.setTop (mkF m 128 #[.val (.int p1), .val (.ref b1), .val (.int (13 : Int32)), .unset] [(.int (9 : Int32)), (.int (13 : Int32))]))
    have hc128_121 : ¬ ((13 : Int32) < (9 : Int32)) := by decide
    refine own_go (fun t_ k => XS.icmpNo X49.here hx rfl (hb hby at_128) rfl (flt hc128_121).1 k) ?_
    show WP p e below _ (T49.setTop (mkF m 131 #[.val (.int p1), .val (.ref b1), .val (.int (13 : Int32)), .unset] []))
    refine own_go (fun t_ k => XS.iloadN X49.here hx rfl (hb hby at_131) rfl k) ?_
    show WP p e below _ (T49.setTop (mkF m 132 #[.val (.int p1), .val (.ref b1), .val (.int (13 : Int32)), .unset] [(.int (13 : Int32))]))
    refine own_go (fun t_ k => XS.bipush X49.here hx rfl (hb hby at_132) k) ?_
    show WP p e below _ (T49.setTop (mkF m 134 #[.val (.int p1), .val (.ref b1), .val (.int (13 : Int32)), .unset] [(.int (14 : Int32)), (.int (13 : Int32))]))
    have hc134_122 : ¬ ((14 : Int32) < (13 : Int32)) := by decide
    refine own_go (fun t_ k => XS.icmpNo X49.here hx rfl (hb hby at_134) rfl (flt hc134_122).2.2.1 k) ?_
    show WP p e below _ (T49.setTop (mkF m 137 #[.val (.int p1), .val (.ref b1), .val (.int (13 : Int32)), .unset] []))
    refine own_go (fun t_ k => XS.iconst X49.here hx rfl (hb hby at_137) k) ?_
    show WP p e below _ (T49.setTop (mkF m 138 #[.val (.int p1), .val (.ref b1), .val (.int (13 : Int32)), .unset] [(.int (1 : Int32))]))
    refine own_go (fun t_ k => XS.goto X49.here hx rfl (pc0 := 138) (pc' := 142) rfl (hb hby at_138) (by decide) (by decide) k) ?_
    show WP p e below _ (T49.setTop (mkF m 142 #[.val (.int p1), .val (.ref b1), .val (.int (13 : Int32)), .unset] [(.int (1 : Int32))]))
    refine own_go (fun t_ k => XS.istoreN X49.here hx rfl (hb hby at_142) rfl (l' := #[.val (.int p1), .val (.ref b1), .val (.int (13 : Int32)), .val (.int (1 : Int32))]) rfl k) ?_
    show WP p e below _ (T49.setTop (mkF m 143 #[.val (.int p1), .val (.ref b1), .val (.int (13 : Int32)), .val (.int (1 : Int32))] []))
    refine own_go (fun t_ k => XS.aloadN X49.here hx rfl (hb hby at_143) rfl rfl k) ?_
    show WP p e below _ (T49.setTop (mkF m 144 #[.val (.int p1), .val (.ref b1), .val (.int (13 : Int32)), .val (.int (1 : Int32))] [(.ref b1)]))
    refine own_go (fun t_ k => XS.iloadN X49.here hx rfl (hb hby at_144) rfl k) ?_
    show WP p e below _ (T49.setTop (mkF m 145 #[.val (.int p1), .val (.ref b1), .val (.int (13 : Int32)), .val (.int (1 : Int32))] [(.int (13 : Int32)), (.ref b1)]))
    obtain ⟨cl123, Ar123, -, S123, M123, H123, -⟩ := id (V49)
    have hin123 : ¬ ((13 : Int32) < 0 ∨ cl123.slots.size ≤ ((13 : Int32)).toNatClampNeg) := inb_of S123 (⟨by decide, by decide⟩)
    refine own_go (fun t_ k => X49.aaload hx (j := (13 : Int32)) (v := (.ref en13)) (by rw [e49]; exact Ar123.1) (State.isArrayOf_alike hZ.alike Ar123.2.1) rfl Ar123.2.2 hin123 (H123.at hin123 rfl) (g := (mkF m 145 #[.val (.int p1), .val (.ref b1), .val (.int (13 : Int32)), .val (.int (1 : Int32))] [(.int (13 : Int32)), (.ref b1)])) rfl rfl (hb hby at_145) _ k) ?_
    show WP p e below _ (T49.setTop (mkF m 146 #[.val (.int p1), .val (.ref b1), .val (.int (13 : Int32)), .val (.int (1 : Int32))] [(.ref en13)]))
    obtain ⟨cq124, kq124, q124a, q124b, q124c⟩ := isOf (T := T49) hZ e49 (((((((((((((((((Een13.ext E1).wr W4).wr W7).wr W10).wr W13).wr W16).wr W19).wr W22).wr W25).wr W28).wr W31).wr W34).wr W37).wr W40).wr W43).wr W46).wr W49)
    obtain ⟨_, _, ⟨T124, L124, k124, n124⟩, -, X124, ⟨Lc124, hQ124, l124, y124, z124⟩, st124⟩ := X49.virtualBack hx (y := (⟨"com/example/prefold/prefold/passes/Node$Operator", "truth", "()Z"⟩ : MethodName)) (z := (⟨"com/example/prefold/prefold/passes/Node$Operator", "truth", "()Z"⟩ : MethodName)) hown (mvT hZ (hw _ (List.mem_of_getElem? (i := 37) rfl))) (mvT hZ (hw _ (List.mem_of_getElem? (i := 38) rfl))) (notFace_of_selects (args := #[]) (mvT hZ (hw _ (List.mem_of_getElem? (i := 40) rfl)))) (mvT hZ (hw _ (List.mem_of_getElem? (i := 40) rfl))) (mvT hZ (hw _ (List.mem_of_getElem? (i := 39) rfl))) (by decide) (backOf (W := 0) (rm1_13 l Z a0 hw [] en13 h49 n0 (((((((((((((((((Een13.ext E1).wr W4).wr W7).wr W10).wr W13).wr W16).wr W19).wr W22).wr W25).wr W28).wr W31).wr W34).wr W37).wr W40).wr W43).wr W46).wr W49) (((((((((((((((((Fen13.ext E1).other W4 (Or.inl ne_en13_b1)).other W7 (Or.inl ne_en13_b1)).other W10 (Or.inl ne_en13_b1)).other W13 (Or.inl ne_en13_b1)).other W16 (Or.inl ne_en13_b1)).other W19 (Or.inl ne_en13_b1)).other W22 (Or.inl ne_en13_b1)).other W25 (Or.inl ne_en13_b1)).other W28 (Or.inl ne_en13_b1)).other W31 (Or.inl ne_en13_b1)).other W34 (Or.inl ne_en13_b1)).other W37 (Or.inl ne_en13_b1)).other W40 (Or.inl ne_en13_b1)).other W43 (Or.inl ne_en13_b1)).other W46 (Or.inl ne_en13_b1)).other W49 (Or.inl ne_en13_b1))) hZ (hw _ (List.mem_of_getElem? (i := 41) rfl)) (hw _ (List.mem_of_getElem? (i := 3) rfl)) (by decide) (by decide)) q124a q124c (g := (mkF m 146 #[.val (.int p1), .val (.ref b1), .val (.int (13 : Int32)), .val (.int (1 : Int32))] [(.ref en13)])) rfl (by rw [hml]; rfl) (Steps.refl _) (argsL := []) (rest := []) (lenOf pd_1 rfl) rfl (by show 2 * 0 + _ ≤ _; exact Nat.le_of_eq rfl) (hb hby at_146) (fun _ _ => ⟨rfl, e49, (by decide : 1 + 0 ≤ _), (by decide : 16 + 0 ≤ _)⟩)
    dsimp only [Pt.U, Pt.locs, Pt.cells, Pt.slots] at X124 l124 y124 z124 st124 hQ124
    subst l124 y124 z124
    obtain ⟨rfl, N124q, e124⟩ := hQ124
    have N124 := Fr.app N49 N124q
    replace X124 : Stand p l e room_1 s m _ below meth c T124 _ 1 16 := X124
    refine own_go (fun t_ k => st124.trans k) ?_
    show WP p e below _ (T124.setTop (mkF m 149 #[.val (.int p1), .val (.ref b1), .val (.int (13 : Int32)), .val (.int (1 : Int32))] [(.int (1 : Int32))]))
    refine own_go (fun t_ k => XS.iloadN X124.here hx rfl (hb hby at_149) rfl k) ?_
    show WP p e below _ (T124.setTop (mkF m 150 #[.val (.int p1), .val (.ref b1), .val (.int (13 : Int32)), .val (.int (1 : Int32))] [(.int (1 : Int32)), (.int (1 : Int32))]))
    have hc150_125 : ((1 : Int32) = (1 : Int32)) := by decide
    refine own_go (fun t_ k => XS.icmpNo X124.here hx rfl (hb hby at_150) rfl (teq hc150_125).2 k) ?_
    show WP p e below _ (T124.setTop (mkF m 153 #[.val (.int p1), .val (.ref b1), .val (.int (13 : Int32)), .val (.int (1 : Int32))] []))
    refine own_go (fun t_ k => XS.iconst X124.here hx rfl (hb hby at_153) k) ?_
    show WP p e below _ (T124.setTop (mkF m 154 #[.val (.int p1), .val (.ref b1), .val (.int (13 : Int32)), .val (.int (1 : Int32))] [(.int (1 : Int32))]))
    refine own_go (fun t_ k => XS.goto X124.here hx rfl (pc0 := 154) (pc' := 158) rfl (hb hby at_154) (by decide) (by decide) k) ?_
    show WP p e below _ (T124.setTop (mkF m 158 #[.val (.int p1), .val (.ref b1), .val (.int (13 : Int32)), .val (.int (1 : Int32))] [(.int (1 : Int32))]))
    exact own_retZ X124 hx Bd.notSynchronized Bd.returns (hb hby at_158) (by decide) (show Q0 n0 _ _ _ from ⟨rfl, N124⟩) (by decide) (by decide)
  · subst hs51
    show WP p e below _ (T49.setTop (mkF m 120 #[.val (.int p1), .val (.ref b1), .val (.int (14 : Int32)), .unset] []))
    refine own_go (fun t_ k => XS.iloadN X49.here hx rfl (hb hby at_120) rfl k) ?_
    show WP p e below _ (T49.setTop (mkF m 121 #[.val (.int p1), .val (.ref b1), .val (.int (14 : Int32)), .unset] [(.int (14 : Int32))]))
    refine own_go (fun t_ k => XS.iconst X49.here hx rfl (hb hby at_121) k) ?_
    show WP p e below _ (T49.setTop (mkF m 122 #[.val (.int p1), .val (.ref b1), .val (.int (14 : Int32)), .unset] [(.int (1 : Int32)), (.int (14 : Int32))]))
    have hc122_126 : ¬ ((14 : Int32) = (1 : Int32)) := by decide
    refine own_go (fun t_ k => XS.icmpNo X49.here hx rfl (hb hby at_122) rfl (feq hc122_126).1 k) ?_
    show WP p e below _ (T49.setTop (mkF m 125 #[.val (.int p1), .val (.ref b1), .val (.int (14 : Int32)), .unset] []))
    refine own_go (fun t_ k => XS.iloadN X49.here hx rfl (hb hby at_125) rfl k) ?_
    show WP p e below _ (T49.setTop (mkF m 126 #[.val (.int p1), .val (.ref b1), .val (.int (14 : Int32)), .unset] [(.int (14 : Int32))]))
    refine own_go (fun t_ k => XS.bipush X49.here hx rfl (hb hby at_126) k) ?_
    show WP p e below _ (T49.setTop (mkF m 128 #[.val (.int p1), .val (.ref b1), .val (.int (14 : Int32)), .unset] [(.int (9 : Int32)), (.int (14 : Int32))]))
    have hc128_127 : ¬ ((14 : Int32) < (9 : Int32)) := by decide
    refine own_go (fun t_ k => XS.icmpNo X49.here hx rfl (hb hby at_128) rfl (flt hc128_127).1 k) ?_
    show WP p e below _ (T49.setTop (mkF m 131 #[.val (.int p1), .val (.ref b1), .val (.int (14 : Int32)), .unset] []))
    refine own_go (fun t_ k => XS.iloadN X49.here hx rfl (hb hby at_131) rfl k) ?_
    show WP p e below _ (T49.setTop (mkF m 132 #[.val (.int p1), .val (.ref b1), .val (.int (14 : Int32)), .unset] [(.int (14 : Int32))]))
    refine own_go (fun t_ k => XS.bipush X49.here hx rfl (hb hby at_132) k) ?_
    show WP p e below _ (T49.setTop (mkF m 134 #[.val (.int p1), .val (.ref b1), .val (.int (14 : Int32)), .unset] [(.int (14 : Int32)), (.int (14 : Int32))]))
    have hc134_128 : ¬ ((14 : Int32) < (14 : Int32)) := by decide
    refine own_go (fun t_ k => XS.icmpNo X49.here hx rfl (hb hby at_134) rfl (flt hc134_128).2.2.1 k) ?_
    show WP p e below _ (T49.setTop (mkF m 137 #[.val (.int p1), .val (.ref b1), .val (.int (14 : Int32)), .unset] []))
    refine own_go (fun t_ k => XS.iconst X49.here hx rfl (hb hby at_137) k) ?_
    show WP p e below _ (T49.setTop (mkF m 138 #[.val (.int p1), .val (.ref b1), .val (.int (14 : Int32)), .unset] [(.int (1 : Int32))]))
    refine own_go (fun t_ k => XS.goto X49.here hx rfl (pc0 := 138) (pc' := 142) rfl (hb hby at_138) (by decide) (by decide) k) ?_
    show WP p e below _ (T49.setTop (mkF m 142 #[.val (.int p1), .val (.ref b1), .val (.int (14 : Int32)), .unset] [(.int (1 : Int32))]))
    refine own_go (fun t_ k => XS.istoreN X49.here hx rfl (hb hby at_142) rfl (l' := #[.val (.int p1), .val (.ref b1), .val (.int (14 : Int32)), .val (.int (1 : Int32))]) rfl k) ?_
    show WP p e below _ (T49.setTop (mkF m 143 #[.val (.int p1), .val (.ref b1), .val (.int (14 : Int32)), .val (.int (1 : Int32))] []))
    refine own_go (fun t_ k => XS.aloadN X49.here hx rfl (hb hby at_143) rfl rfl k) ?_
    show WP p e below _ (T49.setTop (mkF m 144 #[.val (.int p1), .val (.ref b1), .val (.int (14 : Int32)), .val (.int (1 : Int32))] [(.ref b1)]))
    refine own_go (fun t_ k => XS.iloadN X49.here hx rfl (hb hby at_144) rfl k) ?_
    show WP p e below _ (T49.setTop (mkF m 145 #[.val (.int p1), .val (.ref b1), .val (.int (14 : Int32)), .val (.int (1 : Int32))] [(.int (14 : Int32)), (.ref b1)]))
    obtain ⟨cl129, Ar129, -, S129, M129, H129, -⟩ := id (V49)
    have hin129 : ¬ ((14 : Int32) < 0 ∨ cl129.slots.size ≤ ((14 : Int32)).toNatClampNeg) := inb_of S129 (⟨by decide, by decide⟩)
    refine own_go (fun t_ k => X49.aaload hx (j := (14 : Int32)) (v := (.ref en14)) (by rw [e49]; exact Ar129.1) (State.isArrayOf_alike hZ.alike Ar129.2.1) rfl Ar129.2.2 hin129 (H129.at hin129 rfl) (g := (mkF m 145 #[.val (.int p1), .val (.ref b1), .val (.int (14 : Int32)), .val (.int (1 : Int32))] [(.int (14 : Int32)), (.ref b1)])) rfl rfl (hb hby at_145) _ k) ?_
    show WP p e below _ (T49.setTop (mkF m 146 #[.val (.int p1), .val (.ref b1), .val (.int (14 : Int32)), .val (.int (1 : Int32))] [(.ref en14)]))
    obtain ⟨cq130, kq130, q130a, q130b, q130c⟩ := isOf (T := T49) hZ e49 (((((((((((((((((Een14.ext E1).wr W4).wr W7).wr W10).wr W13).wr W16).wr W19).wr W22).wr W25).wr W28).wr W31).wr W34).wr W37).wr W40).wr W43).wr W46).wr W49)
    obtain ⟨_, _, ⟨T130, L130, k130, n130⟩, -, X130, ⟨Lc130, hQ130, l130, y130, z130⟩, st130⟩ := X49.virtualBack hx (y := (⟨"com/example/prefold/prefold/passes/Node$Operator", "truth", "()Z"⟩ : MethodName)) (z := (⟨"com/example/prefold/prefold/passes/Node$Operator", "truth", "()Z"⟩ : MethodName)) hown (mvT hZ (hw _ (List.mem_of_getElem? (i := 37) rfl))) (mvT hZ (hw _ (List.mem_of_getElem? (i := 38) rfl))) (notFace_of_selects (args := #[]) (mvT hZ (hw _ (List.mem_of_getElem? (i := 40) rfl)))) (mvT hZ (hw _ (List.mem_of_getElem? (i := 40) rfl))) (mvT hZ (hw _ (List.mem_of_getElem? (i := 39) rfl))) (by decide) (backOf (W := 0) (rm1_14 l Z a0 hw [] en14 h49 n0 (((((((((((((((((Een14.ext E1).wr W4).wr W7).wr W10).wr W13).wr W16).wr W19).wr W22).wr W25).wr W28).wr W31).wr W34).wr W37).wr W40).wr W43).wr W46).wr W49) (((((((((((((((((Fen14.ext E1).other W4 (Or.inl ne_en14_b1)).other W7 (Or.inl ne_en14_b1)).other W10 (Or.inl ne_en14_b1)).other W13 (Or.inl ne_en14_b1)).other W16 (Or.inl ne_en14_b1)).other W19 (Or.inl ne_en14_b1)).other W22 (Or.inl ne_en14_b1)).other W25 (Or.inl ne_en14_b1)).other W28 (Or.inl ne_en14_b1)).other W31 (Or.inl ne_en14_b1)).other W34 (Or.inl ne_en14_b1)).other W37 (Or.inl ne_en14_b1)).other W40 (Or.inl ne_en14_b1)).other W43 (Or.inl ne_en14_b1)).other W46 (Or.inl ne_en14_b1)).other W49 (Or.inl ne_en14_b1))) hZ (hw _ (List.mem_of_getElem? (i := 41) rfl)) (hw _ (List.mem_of_getElem? (i := 3) rfl)) (by decide) (by decide)) q130a q130c (g := (mkF m 146 #[.val (.int p1), .val (.ref b1), .val (.int (14 : Int32)), .val (.int (1 : Int32))] [(.ref en14)])) rfl (by rw [hml]; rfl) (Steps.refl _) (argsL := []) (rest := []) (lenOf pd_1 rfl) rfl (by show 2 * 0 + _ ≤ _; exact Nat.le_of_eq rfl) (hb hby at_146) (fun _ _ => ⟨rfl, e49, (by decide : 1 + 0 ≤ _), (by decide : 16 + 0 ≤ _)⟩)
    dsimp only [Pt.U, Pt.locs, Pt.cells, Pt.slots] at X130 l130 y130 z130 st130 hQ130
    subst l130 y130 z130
    obtain ⟨rfl, N130q, e130⟩ := hQ130
    have N130 := Fr.app N49 N130q
    replace X130 : Stand p l e room_1 s m _ below meth c T130 _ 1 16 := X130
    refine own_go (fun t_ k => st130.trans k) ?_
    show WP p e below _ (T130.setTop (mkF m 149 #[.val (.int p1), .val (.ref b1), .val (.int (14 : Int32)), .val (.int (1 : Int32))] [(.int (1 : Int32))]))
    refine own_go (fun t_ k => XS.iloadN X130.here hx rfl (hb hby at_149) rfl k) ?_
    show WP p e below _ (T130.setTop (mkF m 150 #[.val (.int p1), .val (.ref b1), .val (.int (14 : Int32)), .val (.int (1 : Int32))] [(.int (1 : Int32)), (.int (1 : Int32))]))
    have hc150_131 : ((1 : Int32) = (1 : Int32)) := by decide
    refine own_go (fun t_ k => XS.icmpNo X130.here hx rfl (hb hby at_150) rfl (teq hc150_131).2 k) ?_
    show WP p e below _ (T130.setTop (mkF m 153 #[.val (.int p1), .val (.ref b1), .val (.int (14 : Int32)), .val (.int (1 : Int32))] []))
    refine own_go (fun t_ k => XS.iconst X130.here hx rfl (hb hby at_153) k) ?_
    show WP p e below _ (T130.setTop (mkF m 154 #[.val (.int p1), .val (.ref b1), .val (.int (14 : Int32)), .val (.int (1 : Int32))] [(.int (1 : Int32))]))
    refine own_go (fun t_ k => XS.goto X130.here hx rfl (pc0 := 154) (pc' := 158) rfl (hb hby at_154) (by decide) (by decide) k) ?_
    show WP p e below _ (T130.setTop (mkF m 158 #[.val (.int p1), .val (.ref b1), .val (.int (14 : Int32)), .val (.int (1 : Int32))] [(.int (1 : Int32))]))
    exact own_retZ X130 hx Bd.notSynchronized Bd.returns (hb hby at_158) (by decide) (show Q0 n0 _ _ _ from ⟨rfl, N130⟩) (by decide) (by decide)
  · subst hs51
    show WP p e below _ (T49.setTop (mkF m 120 #[.val (.int p1), .val (.ref b1), .val (.int (15 : Int32)), .unset] []))
    refine own_go (fun t_ k => XS.iloadN X49.here hx rfl (hb hby at_120) rfl k) ?_
    show WP p e below _ (T49.setTop (mkF m 121 #[.val (.int p1), .val (.ref b1), .val (.int (15 : Int32)), .unset] [(.int (15 : Int32))]))
    refine own_go (fun t_ k => XS.iconst X49.here hx rfl (hb hby at_121) k) ?_
    show WP p e below _ (T49.setTop (mkF m 122 #[.val (.int p1), .val (.ref b1), .val (.int (15 : Int32)), .unset] [(.int (1 : Int32)), (.int (15 : Int32))]))
    have hc122_132 : ¬ ((15 : Int32) = (1 : Int32)) := by decide
    refine own_go (fun t_ k => XS.icmpNo X49.here hx rfl (hb hby at_122) rfl (feq hc122_132).1 k) ?_
    show WP p e below _ (T49.setTop (mkF m 125 #[.val (.int p1), .val (.ref b1), .val (.int (15 : Int32)), .unset] []))
    refine own_go (fun t_ k => XS.iloadN X49.here hx rfl (hb hby at_125) rfl k) ?_
    show WP p e below _ (T49.setTop (mkF m 126 #[.val (.int p1), .val (.ref b1), .val (.int (15 : Int32)), .unset] [(.int (15 : Int32))]))
    refine own_go (fun t_ k => XS.bipush X49.here hx rfl (hb hby at_126) k) ?_
    show WP p e below _ (T49.setTop (mkF m 128 #[.val (.int p1), .val (.ref b1), .val (.int (15 : Int32)), .unset] [(.int (9 : Int32)), (.int (15 : Int32))]))
    have hc128_133 : ¬ ((15 : Int32) < (9 : Int32)) := by decide
    refine own_go (fun t_ k => XS.icmpNo X49.here hx rfl (hb hby at_128) rfl (flt hc128_133).1 k) ?_
    show WP p e below _ (T49.setTop (mkF m 131 #[.val (.int p1), .val (.ref b1), .val (.int (15 : Int32)), .unset] []))
    refine own_go (fun t_ k => XS.iloadN X49.here hx rfl (hb hby at_131) rfl k) ?_
    show WP p e below _ (T49.setTop (mkF m 132 #[.val (.int p1), .val (.ref b1), .val (.int (15 : Int32)), .unset] [(.int (15 : Int32))]))
    refine own_go (fun t_ k => XS.bipush X49.here hx rfl (hb hby at_132) k) ?_
    show WP p e below _ (T49.setTop (mkF m 134 #[.val (.int p1), .val (.ref b1), .val (.int (15 : Int32)), .unset] [(.int (14 : Int32)), (.int (15 : Int32))]))
    have hc134_134 : ((14 : Int32) < (15 : Int32)) := by decide
    refine own_go (fun t_ k => XS.icmpYes X49.here hx rfl (pc0 := 134) (pc' := 141) rfl (hb hby at_134) rfl (tlt hc134_134).2.2.1 (by decide) (by decide) k) ?_
    show WP p e below _ (T49.setTop (mkF m 141 #[.val (.int p1), .val (.ref b1), .val (.int (15 : Int32)), .unset] []))
    refine own_go (fun t_ k => XS.iconst X49.here hx rfl (hb hby at_141) k) ?_
    show WP p e below _ (T49.setTop (mkF m 142 #[.val (.int p1), .val (.ref b1), .val (.int (15 : Int32)), .unset] [(.int (0 : Int32))]))
    refine own_go (fun t_ k => XS.istoreN X49.here hx rfl (hb hby at_142) rfl (l' := #[.val (.int p1), .val (.ref b1), .val (.int (15 : Int32)), .val (.int (0 : Int32))]) rfl k) ?_
    show WP p e below _ (T49.setTop (mkF m 143 #[.val (.int p1), .val (.ref b1), .val (.int (15 : Int32)), .val (.int (0 : Int32))] []))
    refine own_go (fun t_ k => XS.aloadN X49.here hx rfl (hb hby at_143) rfl rfl k) ?_
    show WP p e below _ (T49.setTop (mkF m 144 #[.val (.int p1), .val (.ref b1), .val (.int (15 : Int32)), .val (.int (0 : Int32))] [(.ref b1)]))
    refine own_go (fun t_ k => XS.iloadN X49.here hx rfl (hb hby at_144) rfl k) ?_
    show WP p e below _ (T49.setTop (mkF m 145 #[.val (.int p1), .val (.ref b1), .val (.int (15 : Int32)), .val (.int (0 : Int32))] [(.int (15 : Int32)), (.ref b1)]))
    obtain ⟨cl135, Ar135, -, S135, M135, H135, -⟩ := id (V49)
    have hin135 : ¬ ((15 : Int32) < 0 ∨ cl135.slots.size ≤ ((15 : Int32)).toNatClampNeg) := inb_of S135 (⟨by decide, by decide⟩)
    refine own_go (fun t_ k => X49.aaload hx (j := (15 : Int32)) (v := (.ref en15)) (by rw [e49]; exact Ar135.1) (State.isArrayOf_alike hZ.alike Ar135.2.1) rfl Ar135.2.2 hin135 (H135.at hin135 rfl) (g := (mkF m 145 #[.val (.int p1), .val (.ref b1), .val (.int (15 : Int32)), .val (.int (0 : Int32))] [(.int (15 : Int32)), (.ref b1)])) rfl rfl (hb hby at_145) _ k) ?_
    show WP p e below _ (T49.setTop (mkF m 146 #[.val (.int p1), .val (.ref b1), .val (.int (15 : Int32)), .val (.int (0 : Int32))] [(.ref en15)]))
    obtain ⟨cq136, kq136, q136a, q136b, q136c⟩ := isOf (T := T49) hZ e49 (((((((((((((((((Een15.ext E1).wr W4).wr W7).wr W10).wr W13).wr W16).wr W19).wr W22).wr W25).wr W28).wr W31).wr W34).wr W37).wr W40).wr W43).wr W46).wr W49)
    obtain ⟨_, _, ⟨T136, L136, k136, n136⟩, -, X136, ⟨Lc136, hQ136, l136, y136, z136⟩, st136⟩ := X49.virtualBack hx (y := (⟨"com/example/prefold/prefold/passes/Node$Operator", "truth", "()Z"⟩ : MethodName)) (z := (⟨"com/example/prefold/prefold/passes/Node$Operator", "truth", "()Z"⟩ : MethodName)) hown (mvT hZ (hw _ (List.mem_of_getElem? (i := 37) rfl))) (mvT hZ (hw _ (List.mem_of_getElem? (i := 38) rfl))) (notFace_of_selects (args := #[]) (mvT hZ (hw _ (List.mem_of_getElem? (i := 40) rfl)))) (mvT hZ (hw _ (List.mem_of_getElem? (i := 40) rfl))) (mvT hZ (hw _ (List.mem_of_getElem? (i := 39) rfl))) (by decide) (backOf (W := 0) (rm1_15 l Z a0 hw [] en15 h49 n0 (((((((((((((((((Een15.ext E1).wr W4).wr W7).wr W10).wr W13).wr W16).wr W19).wr W22).wr W25).wr W28).wr W31).wr W34).wr W37).wr W40).wr W43).wr W46).wr W49) (((((((((((((((((Fen15.ext E1).other W4 (Or.inl ne_en15_b1)).other W7 (Or.inl ne_en15_b1)).other W10 (Or.inl ne_en15_b1)).other W13 (Or.inl ne_en15_b1)).other W16 (Or.inl ne_en15_b1)).other W19 (Or.inl ne_en15_b1)).other W22 (Or.inl ne_en15_b1)).other W25 (Or.inl ne_en15_b1)).other W28 (Or.inl ne_en15_b1)).other W31 (Or.inl ne_en15_b1)).other W34 (Or.inl ne_en15_b1)).other W37 (Or.inl ne_en15_b1)).other W40 (Or.inl ne_en15_b1)).other W43 (Or.inl ne_en15_b1)).other W46 (Or.inl ne_en15_b1)).other W49 (Or.inl ne_en15_b1))) hZ (hw _ (List.mem_of_getElem? (i := 41) rfl)) (hw _ (List.mem_of_getElem? (i := 3) rfl)) (by decide) (by decide)) q136a q136c (g := (mkF m 146 #[.val (.int p1), .val (.ref b1), .val (.int (15 : Int32)), .val (.int (0 : Int32))] [(.ref en15)])) rfl (by rw [hml]; rfl) (Steps.refl _) (argsL := []) (rest := []) (lenOf pd_1 rfl) rfl (by show 2 * 0 + _ ≤ _; exact Nat.le_of_eq rfl) (hb hby at_146) (fun _ _ => ⟨rfl, e49, (by decide : 1 + 0 ≤ _), (by decide : 16 + 0 ≤ _)⟩)
    dsimp only [Pt.U, Pt.locs, Pt.cells, Pt.slots] at X136 l136 y136 z136 st136 hQ136
    subst l136 y136 z136
    obtain ⟨rfl, N136q, e136⟩ := hQ136
    have N136 := Fr.app N49 N136q
    replace X136 : Stand p l e room_1 s m _ below meth c T136 _ 1 16 := X136
    refine own_go (fun t_ k => st136.trans k) ?_
    show WP p e below _ (T136.setTop (mkF m 149 #[.val (.int p1), .val (.ref b1), .val (.int (15 : Int32)), .val (.int (0 : Int32))] [(.int (0 : Int32))]))
    refine own_go (fun t_ k => XS.iloadN X136.here hx rfl (hb hby at_149) rfl k) ?_
    show WP p e below _ (T136.setTop (mkF m 150 #[.val (.int p1), .val (.ref b1), .val (.int (15 : Int32)), .val (.int (0 : Int32))] [(.int (0 : Int32)), (.int (0 : Int32))]))
    have hc150_137 : ((0 : Int32) = (0 : Int32)) := by decide
    refine own_go (fun t_ k => XS.icmpNo X136.here hx rfl (hb hby at_150) rfl (teq hc150_137).2 k) ?_
    show WP p e below _ (T136.setTop (mkF m 153 #[.val (.int p1), .val (.ref b1), .val (.int (15 : Int32)), .val (.int (0 : Int32))] []))
    refine own_go (fun t_ k => XS.iconst X136.here hx rfl (hb hby at_153) k) ?_
    show WP p e below _ (T136.setTop (mkF m 154 #[.val (.int p1), .val (.ref b1), .val (.int (15 : Int32)), .val (.int (0 : Int32))] [(.int (1 : Int32))]))
    refine own_go (fun t_ k => XS.goto X136.here hx rfl (pc0 := 154) (pc' := 158) rfl (hb hby at_154) (by decide) (by decide) k) ?_
    show WP p e below _ (T136.setTop (mkF m 158 #[.val (.int p1), .val (.ref b1), .val (.int (15 : Int32)), .val (.int (0 : Int32))] [(.int (1 : Int32))]))
    exact own_retZ X136 hx Bd.notSynchronized Bd.returns (hb hby at_158) (by decide) (show Q0 n0 _ _ _ from ⟨rfl, N136⟩) (by decide) (by decide)
set_option maxRecDepth 65536 in
set_option maxHeartbeats 40000000 in
theorem comes_1 {Post : Tables → Env → Array Value → State → Outcome → State → Prop} (hpost : ∀ tb e args s v u, (limb_1_1.after args s (.returned v) u = true ∧ limb_1_2.after args s (.returned v) u = true ∧ True) → FrameEnd s (.returned v) u (Jvm.fieldLocs frame_1_writes args s ++ Jvm.arrayLocs frame_1_arrays args s ++ Jvm.staticLocs frame_1_statics s) 16 128 → Post tb e args s (.returned v) u) :
    ArmFor flags0 classFile x code maxLocals ret World_1 tables_1 room_1 Calls_1 rest_1 Pre_1 Post := by
  intro l hfl _ _ p e ha hc hk s m args below hf hA hF happ hP
  obtain ⟨hcalls, hrest, hpre⟩ := hP
  obtain ⟨-, -, -, hnamed, -, -, -, hat⟩ := (Spec.applies_iff hf).mp happ
  obtain ⟨hg, hn⟩ := and_e (Cond.before_iff.mp (show (Jvm.Cond.and given_1 narrow_1).before args s = true from hpre))
  obtain ⟨g1, g2⟩ := and_e hg
  obtain ⟨w0, rfl⟩ : ∃ w0 : Value, args = #[w0] := by
    have hs : args.size = 1 := by simpa [Cond.value, given_1] using g1
    obtain ⟨L⟩ := args
    match L, hs with
    | [w0], _ => exact ⟨w0, rfl⟩
  have hw := fun d (hd : d ∈ tables_1) => atoms_spec (ws := Jvm.Cond.code x code maxLocals ret :: tables_1) hat d (List.mem_cons_of_mem _ hd)
  have hfit : Fit s := fun {y c} hc i hi => by
    obtain ⟨ha, rfl⟩ := Array.getElem?_eq_some_iff.mp hc
    have q := List.all_eq_true.mp ((Array.all_eq_true_iff_forall_mem.mp hF) _ (Array.getElem_mem ha)) i (List.mem_range.mpr hi)
    simpa [Array.getElem?_eq_getElem hi] using q
  obtain ⟨i0, ei0⟩ := is_v g2
  obtain rfl : w0 = (.int i0) := Option.some.inj ei0
  obtain ⟨m1, r1⟩ := and_e hn
  obtain ⟨m2, r2⟩ := and_e r1
  obtain ⟨m3, r3⟩ := and_e r2
  obtain ⟨m4, r4⟩ := and_e r3
  obtain ⟨m5, r5⟩ := and_e r4
  obtain ⟨m6, r6⟩ := and_e r5
  obtain ⟨m7, r7⟩ := and_e r6
  obtain ⟨m8, r8⟩ := and_e r7
  obtain ⟨m9, r9⟩ := and_e r8
  obtain ⟨m10, r10⟩ := and_e r9
  obtain ⟨m11, r11⟩ := and_e r10
  obtain ⟨m12, r12⟩ := and_e r11
  obtain ⟨m13, r13⟩ := and_e r12
  obtain ⟨m14, r14⟩ := and_e r13
  obtain ⟨m15, r15⟩ := and_e r14
  obtain ⟨m16, r16⟩ := and_e r15
  obtain ⟨m17, r17⟩ := and_e r16
  obtain ⟨m18, r18⟩ := and_e r17
  obtain ⟨m19, r19⟩ := and_e r18
  obtain ⟨m20, r20⟩ := and_e r19
  obtain ⟨m21, r21⟩ := and_e r20
  obtain ⟨m22, r22⟩ := and_e r21
  obtain ⟨m23, r23⟩ := and_e r22
  obtain ⟨m24, r24⟩ := and_e r23
  obtain ⟨m25, r25⟩ := and_e r24
  obtain ⟨m26, r26⟩ := and_e r25
  obtain ⟨m27, r27⟩ := and_e r26
  obtain ⟨m28, r28⟩ := and_e r27
  obtain ⟨m29, r29⟩ := and_e r28
  obtain ⟨m30, r30⟩ := and_e r29
  obtain ⟨m31, r31⟩ := and_e r30
  obtain ⟨en0, Sen0, Een0, Fen0⟩ := own_en (nm := "ABS") (i := (0 : Int32)) m1 m17 (hw _ (List.mem_of_getElem? (i := 3) rfl)) (hw _ (List.mem_of_getElem? (i := 4) rfl))
  obtain ⟨en1, Sen1, Een1, Fen1⟩ := own_en (nm := "NOT") (i := (1 : Int32)) m2 m26 (hw _ (List.mem_of_getElem? (i := 3) rfl)) (hw _ (List.mem_of_getElem? (i := 7) rfl))
  obtain ⟨en2, Sen2, Een2, Fen2⟩ := own_en (nm := "PLUS") (i := (2 : Int32)) m3 m23 (hw _ (List.mem_of_getElem? (i := 3) rfl)) (hw _ (List.mem_of_getElem? (i := 9) rfl))
  obtain ⟨en3, Sen3, Een3, Fen3⟩ := own_en (nm := "MINUS") (i := (3 : Int32)) m4 m18 (hw _ (List.mem_of_getElem? (i := 3) rfl)) (hw _ (List.mem_of_getElem? (i := 11) rfl))
  obtain ⟨en4, Sen4, Een4, Fen4⟩ := own_en (nm := "TIMES") (i := (4 : Int32)) m5 m27 (hw _ (List.mem_of_getElem? (i := 3) rfl)) (hw _ (List.mem_of_getElem? (i := 13) rfl))
  obtain ⟨en5, Sen5, Een5, Fen5⟩ := own_en (nm := "DIV") (i := (5 : Int32)) m6 r31 (hw _ (List.mem_of_getElem? (i := 3) rfl)) (hw _ (List.mem_of_getElem? (i := 15) rfl))
  obtain ⟨en6, Sen6, Een6, Fen6⟩ := own_en (nm := "MOD") (i := (6 : Int32)) m7 m30 (hw _ (List.mem_of_getElem? (i := 3) rfl)) (hw _ (List.mem_of_getElem? (i := 17) rfl))
  obtain ⟨en7, Sen7, Een7, Fen7⟩ := own_en (nm := "MIN") (i := (7 : Int32)) m8 m22 (hw _ (List.mem_of_getElem? (i := 3) rfl)) (hw _ (List.mem_of_getElem? (i := 19) rfl))
  obtain ⟨en8, Sen8, Een8, Fen8⟩ := own_en (nm := "MAX") (i := (8 : Int32)) m9 m25 (hw _ (List.mem_of_getElem? (i := 3) rfl)) (hw _ (List.mem_of_getElem? (i := 21) rfl))
  obtain ⟨en9, Sen9, Een9, Fen9⟩ := own_en (nm := "EQ") (i := (9 : Int32)) m10 m31 (hw _ (List.mem_of_getElem? (i := 3) rfl)) (hw _ (List.mem_of_getElem? (i := 23) rfl))
  obtain ⟨en10, Sen10, Een10, Fen10⟩ := own_en (nm := "NE") (i := (10 : Int32)) m11 m21 (hw _ (List.mem_of_getElem? (i := 3) rfl)) (hw _ (List.mem_of_getElem? (i := 25) rfl))
  obtain ⟨en11, Sen11, Een11, Fen11⟩ := own_en (nm := "LE") (i := (11 : Int32)) m12 m24 (hw _ (List.mem_of_getElem? (i := 3) rfl)) (hw _ (List.mem_of_getElem? (i := 27) rfl))
  obtain ⟨en12, Sen12, Een12, Fen12⟩ := own_en (nm := "LT") (i := (12 : Int32)) m13 m28 (hw _ (List.mem_of_getElem? (i := 3) rfl)) (hw _ (List.mem_of_getElem? (i := 29) rfl))
  obtain ⟨en13, Sen13, Een13, Fen13⟩ := own_en (nm := "AND") (i := (13 : Int32)) m14 m29 (hw _ (List.mem_of_getElem? (i := 3) rfl)) (hw _ (List.mem_of_getElem? (i := 31) rfl))
  obtain ⟨en14, Sen14, Een14, Fen14⟩ := own_en (nm := "OR") (i := (14 : Int32)) m15 m19 (hw _ (List.mem_of_getElem? (i := 3) rfl)) (hw _ (List.mem_of_getElem? (i := 33) rfl))
  obtain ⟨en15, Sen15, Een15, Fen15⟩ := own_en (nm := "ELEMENT") (i := (15 : Int32)) m16 m20 (hw _ (List.mem_of_getElem? (i := 3) rfl)) (hw _ (List.mem_of_getElem? (i := 35) rfl))
  obtain ⟨n, o, h1, h2, h3, _, L, rfl, ⟨rfl, N⟩, hq⟩ := rm0 l s _ hw tables_1 i0 en0 en1 en2 en3 en4 en5 en6 en7 en8 en9 en10 en11 en12 en13 en14 en15 s.heap s.heap.size (Nat.le_refl _) Sen0 Een0 Fen0 Sen1 Een1 Fen1 Sen2 Een2 Fen2 Sen3 Een3 Fen3 Sen4 Een4 Fen4 Sen5 Een5 Fen5 Sen6 Een6 Fen6 Sen7 Een7 Fen7 Sen8 Een8 Fen8 Sen9 Een9 Fen9 Sen10 Een10 Fen10 Sen11 Een11 Fen11 Sen12 Een12 Fen12 Sen13 Een13 Fen13 Sen14 Een14 Fen14 Sen15 Een15 Fen15 p e ha hc hk s m _ below hf ((Spec.applies_iff_loose hf).mp happ).1 ⟨rfl, State.Warmed39.refl s, rfl⟩ trivial
  refine ⟨n, _, h1, h2, h3, hpost _ _ _ _ _ _ ⟨Cond.after_iff.mpr rfl, Cond.after_iff.mpr (eq_i res_at (Term.int_eval (1)) rfl), trivial⟩ ⟨hq.1, hq.2.1, (hq.2.2.sift fun y hy => Or.inr (N y hy)).mono (by decide) (by decide)⟩⟩
theorem main_1_1 : Claimed_1_1 := comes_1 fun _ _ _ _ _ _ h hF => ⟨h.1, hF⟩
theorem main_1_2 : Claimed_1_2 := comes_1 fun _ _ _ _ _ _ h hF => ⟨h.2.1, hF⟩
end Jvm.Pilot.@@N@@
namespace Jvm.Pilot.@@N@@
open Jvm Jvm.ClassFile Sem Op Lib Jvm.Free Jvm.Stand Jvm.Pilot.@@N@@.Jvm.D
/-! MADE BY PROGRAM (witnessworld.py) out of the Statement's table words and the real class files: 13 classes; the members and pool entries that the words name. The judged class is class 1, her method 1. -/
namespace start1
open Jvm.ClassFile
def u (s : String) : CpInfo := .utf8 (stringToUtf16 s)
/-- a pool by its gaps: so many unusable entries, then the entry; so many at the end -/
def gap : Nat → List CpInfo → List CpInfo
  | 0, r => r
  | n + 1, r => .unusable :: gap n r
def poolList (es : List (Nat × CpInfo)) (last : Nat) : List CpInfo := es.foldr (fun e r => gap e.1 (e.2 :: r)) (gap last [])
def pool (es : List (Nat × CpInfo)) (last : Nat) : Array CpInfo := ⟨poolList es last⟩
def fileOf (pool : Array CpInfo) (this : Nat) (attrs : Array Attribute := #[]) (ms : Array MethodInfo := #[]) (fl : Nat := 33) (sup : Nat := 0) (ifs : Array Nat := #[]) (fds : Array FieldInfo := #[]) : ClassFile where
  minorVersion := 0
  majorVersion := 65
  constantPool := pool
  accessFlags := fl
  thisClass := this
  superClass := sup
  interfaces := ifs
  fields := fds
  methods := ms
  attributes := attrs
def plain (name : String) (sup : Option ClassId) : Class where
  name := name
  kind := .ordinary
  loader := none
  accessFlags := 33
  super := sup
  interfaces := #[]
  cf := none
  fields := #[]
  methods := #[]
  instanceTypes := #[]
  staticTypes := #[]
  resolved := #[]
  callSites := []
  init := .initialized
  statics := none
  mirror := none

def pool0 : Array CpInfo := pool [(5, u "<init>"), (0, u "()V"), (1, .class_ 10), (1, u "java/lang/Object")] 113

def k0m0 : Method := { name := "<init>", desc := "()V", sig := { parameters := [], returnType := none }, accessFlags := 1, code := none }
/-- java/lang/Object -/
def k0 : Class := { plain "java/lang/Object" none with
  accessFlags := 33
  interfaces := #[]
  cf := some (fileOf pool0 8 #[] #[{ accessFlags := 1, nameIndex := 5, descriptorIndex := 6, attributes := #[] }] 33 0 #[] #[])
  fields := #[]
  methods := #[k0m0]
  instanceTypes := #[]
  staticTypes := #[]
  resolved := Array.replicate 124 none
  statics := none }

def pool1 : Array CpInfo := pool [(2, .class_ 4), (1, u "java/lang/Object"), (0, u "<init>"), (0, u "()V"), (0, .class_ 8), (0, u "com/example/prefold/prefold/passes/Node$Operator"), (0, .fieldref 7 10), (0, .nameAndType 11 12), (0, u "ABS"), (0, u "Lcom/example/prefold/prefold/passes/Node$Operator;"), (0, .fieldref 7 14), (0, .nameAndType 15 12), (0, u "NOT"), (0, .fieldref 7 17), (0, .nameAndType 18 12), (0, u "PLUS"), (0, .fieldref 7 20), (0, .nameAndType 21 12), (0, u "MINUS"), (0, .fieldref 7 23), (0, .nameAndType 24 12), (0, u "TIMES"), (0, .fieldref 7 26), (0, .nameAndType 27 12), (0, u "DIV"), (0, .fieldref 7 29), (0, .nameAndType 30 12), (0, u "MOD"), (0, .fieldref 7 32), (0, .nameAndType 33 12), (0, u "MIN"), (0, .fieldref 7 35), (0, .nameAndType 36 12), (0, u "MAX"), (0, .fieldref 7 38), (0, .nameAndType 39 12), (0, u "EQ"), (0, .fieldref 7 41), (0, .nameAndType 42 12), (0, u "NE"), (0, .fieldref 7 44), (0, .nameAndType 45 12), (0, u "LE"), (0, .fieldref 7 47), (0, .nameAndType 48 12), (0, u "LT"), (0, .fieldref 7 50), (0, .nameAndType 51 12), (0, u "AND"), (0, .fieldref 7 53), (0, .nameAndType 54 12), (0, u "OR"), (0, .fieldref 7 56), (0, .nameAndType 57 12), (0, u "ELEMENT"), (0, .integer 2147483647), (0, .methodref 7 60), (0, .nameAndType 61 62), (0, u "truth"), (0, u "()Z"), (0, .class_ 64), (0, u "com/example/prefold/prefold/passes/OperatorTruthPinLaw"), (2, u "law"), (0, u "(I)Z")] 9

def k1m0 : Method := { name := "<init>", desc := "()V", sig := { parameters := [], returnType := none }, accessFlags := 1, code := none }
def k1c1 : Code := { maxStack := 4, maxLocals := 4, code := code, exceptionTable := #[], attributes := #[] }
def k1m1 : Method := { name := "law", desc := "(I)Z", sig := { parameters := [.int], returnType := some .boolean }, accessFlags := 9, code := some k1c1 }
/-- com/example/prefold/prefold/passes/OperatorTruthPinLaw -/
def k1 : Class := { plain "com/example/prefold/prefold/passes/OperatorTruthPinLaw" (some 0) with
  accessFlags := 49
  interfaces := #[]
  cf := some (fileOf pool1 63 #[] #[{ accessFlags := 1, nameIndex := 5, descriptorIndex := 6, attributes := #[] }, { accessFlags := 9, nameIndex := 67, descriptorIndex := 68, attributes := #[] }] 49 2 #[] #[])
  fields := #[]
  methods := #[k1m0, k1m1]
  instanceTypes := #[]
  staticTypes := #[]
  resolved := Array.replicate 78 none
  statics := none }

def pool2 : Array CpInfo := pool [(1, .class_ 2), (0, u "java/lang/constant/Constable"), (0, .class_ 4), (0, u "java/lang/Object")] 6

/-- java/lang/constant/Constable -/
def k2 : Class := { plain "java/lang/constant/Constable" (some 0) with
  accessFlags := 1537
  interfaces := #[]
  cf := some (fileOf pool2 1 #[] #[] 1537 3 #[] #[])
  fields := #[]
  methods := #[]
  instanceTypes := #[]
  staticTypes := #[]
  resolved := Array.replicate 11 none
  statics := none }

def pool3 : Array CpInfo := pool [(1, .class_ 2), (0, u "java/lang/Comparable"), (0, .class_ 4), (0, u "java/lang/Object")] 7

/-- java/lang/Comparable -/
def k3 : Class := { plain "java/lang/Comparable" (some 0) with
  accessFlags := 1537
  interfaces := #[]
  cf := some (fileOf pool3 1 #[] #[] 1537 3 #[] #[])
  fields := #[]
  methods := #[]
  instanceTypes := #[]
  staticTypes := #[]
  resolved := Array.replicate 12 none
  statics := none }

def pool4 : Array CpInfo := pool [(1, .class_ 2), (0, u "java/io/Serializable"), (0, .class_ 4), (0, u "java/lang/Object")] 2

/-- java/io/Serializable -/
def k4 : Class := { plain "java/io/Serializable" (some 0) with
  accessFlags := 1537
  interfaces := #[]
  cf := some (fileOf pool4 1 #[] #[] 1537 3 #[] #[])
  fields := #[]
  methods := #[]
  instanceTypes := #[]
  staticTypes := #[]
  resolved := Array.replicate 7 none
  statics := none }

def pool5 : Array CpInfo := pool [(2, .class_ 4), (1, u "java/lang/Enum"), (0, u "name"), (0, u "Ljava/lang/String;"), (0, .fieldref 2 8), (0, .nameAndType 9 10), (0, u "ordinal"), (0, u "I"), (1, .class_ 14), (1, u "java/lang/Object"), (4, u "hash"), (86, .class_ 108), (1, u "java/lang/Enum$EnumDesc"), (2, .class_ 112), (0, u "java/lang/constant/Constable"), (0, .class_ 114), (0, u "java/lang/Comparable"), (0, .class_ 116), (0, u "java/io/Serializable"), (9, u "()I")] 77

def k5c0 : Code := { maxStack := 1, maxLocals := 1, code := jdk_37_method_2_code, exceptionTable := #[], attributes := #[] }
def k5m0 : Method := { name := "ordinal", desc := "()I", sig := { parameters := [], returnType := some .int }, accessFlags := 17, code := some k5c0 }
/-- java/lang/Enum -/
def k5 : Class := { plain "java/lang/Enum" (some 0) with
  accessFlags := 1057
  interfaces := #[2, 3, 4]
  cf := some (fileOf pool5 2 #[.nestMembers #[106]] #[{ accessFlags := 17, nameIndex := 9, descriptorIndex := 126, attributes := #[] }] 1057 12 #[111, 113, 115] #[{ accessFlags := 18, nameIndex := 5, descriptorIndex := 6, attributes := #[] }, { accessFlags := 18, nameIndex := 9, descriptorIndex := 10, attributes := #[] }, { accessFlags := 2, nameIndex := 19, descriptorIndex := 10, attributes := #[] }])
  fields := #[{ name := "name", type := (.object "java/lang/String"), accessFlags := 18, slot := 0, constantValue := 0 }, { name := "ordinal", type := .int, accessFlags := 18, slot := 1, constantValue := 0 }, { name := "hash", type := .int, accessFlags := 2, slot := 2, constantValue := 0 }]
  methods := #[k5m0]
  instanceTypes := #[(.object "java/lang/String"), .int, .int]
  staticTypes := #[]
  resolved := Array.replicate 204 none
  statics := none }

def pool6 : Array CpInfo := pool [(1, .class_ 2), (0, u "com/example/prefold/prefold/passes/Node$Operator"), (2, u "ABS"), (0, u "Lcom/example/prefold/prefold/passes/Node$Operator;"), (2, u "NOT"), (2, u "PLUS"), (2, u "MINUS"), (2, u "TIMES"), (2, u "DIV"), (2, u "MOD"), (2, u "MIN"), (2, u "MAX"), (2, u "EQ"), (2, u "NE"), (2, u "LE"), (2, u "LT"), (2, u "AND"), (2, u "OR"), (2, u "ELEMENT"), (2, u "$VALUES"), (0, u "[Lcom/example/prefold/prefold/passes/Node$Operator;"), (6, .class_ 64), (1, u "java/lang/Enum"), (6, .methodref 1 72), (0, .nameAndType 73 74), (0, u "ordinal"), (0, u "()I"), (28, u "truth"), (0, u "()Z"), (6, .class_ 112), (0, u "com/example/prefold/prefold/passes/Node")] 2

def k6c0 : Code := { maxStack := 1, maxLocals := 1, code := prog_80_method_4_code, exceptionTable := #[], attributes := #[] }
def k6m0 : Method := { name := "truth", desc := "()Z", sig := { parameters := [], returnType := some .boolean }, accessFlags := 0, code := some k6c0 }
/-- com/example/prefold/prefold/passes/Node$Operator -/
def k6 : Class := { plain "com/example/prefold/prefold/passes/Node$Operator" (some 5) with
  accessFlags := 16433
  interfaces := #[]
  cf := some (fileOf pool6 1 #[.nestHost 111] #[{ accessFlags := 0, nameIndex := 103, descriptorIndex := 104, attributes := #[] }] 16433 62 #[] #[{ accessFlags := 16409, nameIndex := 5, descriptorIndex := 6, attributes := #[] }, { accessFlags := 16409, nameIndex := 9, descriptorIndex := 6, attributes := #[] }, { accessFlags := 16409, nameIndex := 12, descriptorIndex := 6, attributes := #[] }, { accessFlags := 16409, nameIndex := 15, descriptorIndex := 6, attributes := #[] }, { accessFlags := 16409, nameIndex := 18, descriptorIndex := 6, attributes := #[] }, { accessFlags := 16409, nameIndex := 21, descriptorIndex := 6, attributes := #[] }, { accessFlags := 16409, nameIndex := 24, descriptorIndex := 6, attributes := #[] }, { accessFlags := 16409, nameIndex := 27, descriptorIndex := 6, attributes := #[] }, { accessFlags := 16409, nameIndex := 30, descriptorIndex := 6, attributes := #[] }, { accessFlags := 16409, nameIndex := 33, descriptorIndex := 6, attributes := #[] }, { accessFlags := 16409, nameIndex := 36, descriptorIndex := 6, attributes := #[] }, { accessFlags := 16409, nameIndex := 39, descriptorIndex := 6, attributes := #[] }, { accessFlags := 16409, nameIndex := 42, descriptorIndex := 6, attributes := #[] }, { accessFlags := 16409, nameIndex := 45, descriptorIndex := 6, attributes := #[] }, { accessFlags := 16409, nameIndex := 48, descriptorIndex := 6, attributes := #[] }, { accessFlags := 16409, nameIndex := 51, descriptorIndex := 6, attributes := #[] }, { accessFlags := 4122, nameIndex := 54, descriptorIndex := 55, attributes := #[] }])
  fields := #[{ name := "ABS", type := (.object "com/example/prefold/prefold/passes/Node$Operator"), accessFlags := 16409, slot := 0, constantValue := 0 }, { name := "NOT", type := (.object "com/example/prefold/prefold/passes/Node$Operator"), accessFlags := 16409, slot := 1, constantValue := 0 }, { name := "PLUS", type := (.object "com/example/prefold/prefold/passes/Node$Operator"), accessFlags := 16409, slot := 2, constantValue := 0 }, { name := "MINUS", type := (.object "com/example/prefold/prefold/passes/Node$Operator"), accessFlags := 16409, slot := 3, constantValue := 0 }, { name := "TIMES", type := (.object "com/example/prefold/prefold/passes/Node$Operator"), accessFlags := 16409, slot := 4, constantValue := 0 }, { name := "DIV", type := (.object "com/example/prefold/prefold/passes/Node$Operator"), accessFlags := 16409, slot := 5, constantValue := 0 }, { name := "MOD", type := (.object "com/example/prefold/prefold/passes/Node$Operator"), accessFlags := 16409, slot := 6, constantValue := 0 }, { name := "MIN", type := (.object "com/example/prefold/prefold/passes/Node$Operator"), accessFlags := 16409, slot := 7, constantValue := 0 }, { name := "MAX", type := (.object "com/example/prefold/prefold/passes/Node$Operator"), accessFlags := 16409, slot := 8, constantValue := 0 }, { name := "EQ", type := (.object "com/example/prefold/prefold/passes/Node$Operator"), accessFlags := 16409, slot := 9, constantValue := 0 }, { name := "NE", type := (.object "com/example/prefold/prefold/passes/Node$Operator"), accessFlags := 16409, slot := 10, constantValue := 0 }, { name := "LE", type := (.object "com/example/prefold/prefold/passes/Node$Operator"), accessFlags := 16409, slot := 11, constantValue := 0 }, { name := "LT", type := (.object "com/example/prefold/prefold/passes/Node$Operator"), accessFlags := 16409, slot := 12, constantValue := 0 }, { name := "AND", type := (.object "com/example/prefold/prefold/passes/Node$Operator"), accessFlags := 16409, slot := 13, constantValue := 0 }, { name := "OR", type := (.object "com/example/prefold/prefold/passes/Node$Operator"), accessFlags := 16409, slot := 14, constantValue := 0 }, { name := "ELEMENT", type := (.object "com/example/prefold/prefold/passes/Node$Operator"), accessFlags := 16409, slot := 15, constantValue := 0 }, { name := "$VALUES", type := (.array (.object "com/example/prefold/prefold/passes/Node$Operator")), accessFlags := 4122, slot := 16, constantValue := 0 }]
  methods := #[k6m0]
  instanceTypes := #[(.object "java/lang/String"), .int, .int]
  staticTypes := #[(.object "com/example/prefold/prefold/passes/Node$Operator"), (.object "com/example/prefold/prefold/passes/Node$Operator"), (.object "com/example/prefold/prefold/passes/Node$Operator"), (.object "com/example/prefold/prefold/passes/Node$Operator"), (.object "com/example/prefold/prefold/passes/Node$Operator"), (.object "com/example/prefold/prefold/passes/Node$Operator"), (.object "com/example/prefold/prefold/passes/Node$Operator"), (.object "com/example/prefold/prefold/passes/Node$Operator"), (.object "com/example/prefold/prefold/passes/Node$Operator"), (.object "com/example/prefold/prefold/passes/Node$Operator"), (.object "com/example/prefold/prefold/passes/Node$Operator"), (.object "com/example/prefold/prefold/passes/Node$Operator"), (.object "com/example/prefold/prefold/passes/Node$Operator"), (.object "com/example/prefold/prefold/passes/Node$Operator"), (.object "com/example/prefold/prefold/passes/Node$Operator"), (.object "com/example/prefold/prefold/passes/Node$Operator"), (.array (.object "com/example/prefold/prefold/passes/Node$Operator"))]
  resolved := Array.replicate 115 none
  statics := some 0 }

def pool7 : Array CpInfo := pool [(1, u "java/lang/Cloneable"), (0, .class_ 1), (0, u "java/lang/Object"), (0, .class_ 3)] 3

/-- java/lang/Cloneable -/
def k7 : Class := { plain "java/lang/Cloneable" (some 0) with
  accessFlags := 1537
  interfaces := #[]
  cf := some (fileOf pool7 2 #[] #[] 1537 4 #[] #[])
  fields := #[]
  methods := #[]
  instanceTypes := #[]
  staticTypes := #[]
  resolved := Array.replicate 8 none
  statics := none }

/-- the primitive byte -/
def k8 : Class := { plain "byte" none with kind := .primitive 'B', accessFlags := 0x411 }
/-- [B -/
def k9 : Class := { plain "[B" (some 0) with kind := .array 8 .byte, interfaces := #[7, 4], accessFlags := 1041 }

/-- the primitive int -/
def k10 : Class := { plain "int" none with kind := .primitive 'I', accessFlags := 0x411 }
/-- [I -/
def k11 : Class := { plain "[I" (some 0) with kind := .array 10 .int, interfaces := #[7, 4], accessFlags := 1041 }

/-- [Lcom/example/prefold/prefold/passes/Node$Operator; -/
def k12 : Class := { plain "[Lcom/example/prefold/prefold/passes/Node$Operator;" (some 0) with kind := .array 6 (.object "com/example/prefold/prefold/passes/Node$Operator"), interfaces := #[7, 4], accessFlags := 1041 }

def heap : Heap := #[{ cls := 6, slots := #[.ref 1, .ref 2, .ref 3, .ref 4, .ref 5, .ref 6, .ref 7, .ref 8, .ref 9, .ref 10, .ref 11, .ref 12, .ref 13, .ref 14, .ref 15, .ref 16, .null], vm := .statics 6 },
  { cls := 6, slots := #[.null, .int 0, .int 0], vm := .none },
  { cls := 6, slots := #[.null, .int 1, .int 0], vm := .none },
  { cls := 6, slots := #[.null, .int 2, .int 0], vm := .none },
  { cls := 6, slots := #[.null, .int 3, .int 0], vm := .none },
  { cls := 6, slots := #[.null, .int 4, .int 0], vm := .none },
  { cls := 6, slots := #[.null, .int 5, .int 0], vm := .none },
  { cls := 6, slots := #[.null, .int 6, .int 0], vm := .none },
  { cls := 6, slots := #[.null, .int 7, .int 0], vm := .none },
  { cls := 6, slots := #[.null, .int 8, .int 0], vm := .none },
  { cls := 6, slots := #[.null, .int 9, .int 0], vm := .none },
  { cls := 6, slots := #[.null, .int 10, .int 0], vm := .none },
  { cls := 6, slots := #[.null, .int 11, .int 0], vm := .none },
  { cls := 6, slots := #[.null, .int 12, .int 0], vm := .none },
  { cls := 6, slots := #[.null, .int 13, .int 0], vm := .none },
  { cls := 6, slots := #[.null, .int 14, .int 0], vm := .none },
  { cls := 6, slots := #[.null, .int 15, .int 0], vm := .none }]
def classes : Array Class := #[k0, k1, k2, k3, k4, k5, k6, k7, k8, k9, k10, k11, k12]
def interned : List (Array UInt16 × Addr) := []
def slotsUsed : Nat := 65
def theMethod : MethodId := ⟨1, 1⟩
def args0 : Array Value := #[.int 5]
def aboutOver (below : List Frame) : State where
  vm := { classes := classes, interned := interned.toArray }
  heap := heap
  slotsUsed := slotsUsed
  threads := #[{ frames := .invoking theMethod args0 :: below }]
def below0 : List Frame := [.native { method := ⟨0, 0⟩, args := #[] }]
def about1 : State := aboutOver below0
def p0 : Program := .bare "" "" ""
def e0 : Env := launch0.env 0 0 0
theorem w_frames : about1.frames = Frame.invoking theMethod args0 :: below0 := rfl
set_option maxRecDepth 65536 in
theorem w_args : argsFit about1.vm theMethod args0 = true := by decide +kernel
set_option maxRecDepth 65536 in
theorem w_heap : heapFits about1 = true := by decide +kernel
set_option maxRecDepth 65536 in
theorem w_runnable : about1.curStatus? = some .runnable := by decide +kernel
set_option maxRecDepth 65536 in
theorem w_alone : about1.alone = true := by decide +kernel
set_option maxRecDepth 65536 in
theorem w_named : about1.methodNamed? x = some theMethod := by decide +kernel
set_option maxRecDepth 65536 in
theorem w_hears : about1.hears theMethod below0 = true := by decide +kernel
set_option maxRecDepth 65536 in
theorem w_ripe : about1.ripe theMethod args0 below0 = true := by decide +kernel
theorem w_running : about1.status = .running := rfl
set_option maxRecDepth 65536 in
theorem w_room : about1.hasRoom e0.platform room_1 = true :=
  launch0.hasRoom_least _ room_1 (by decide +kernel) (by decide +kernel) (by decide +kernel) (by decide +kernel) (by decide +kernel) (by decide +kernel)
theorem allAtoms_all (ts : List Jvm.Cond) (a : Array Jvm.Value) (st : Jvm.State) : (allAtoms ts).before a st = ts.all (fun c => c.before a st) := by
  induction ts with
  | nil => rfl
  | cons c t ih =>
    show (Jvm.Cond.and c (allAtoms t)).before a st = _
    rw [Jvm.Cond.before_and, ih, List.all_cons]
def words1 : List Jvm.Cond := Jvm.Cond.code x code maxLocals ret :: tables_1
/-- a 'code' word, met by the world's own term for the bytes: nothing is compared byte by byte -/
theorem code_word {y : MethodName} {bytes : ByteArray} {mx : Nat} {rt : Option FieldType} {a : Array Value} {s : State} {m : MethodId} {meth : Method} {c : Code} (h1 : s.methodNamed? y = some m) (h2 : s.vm.method? m = some meth) (h3 : meth.code = some c) (h4 : c.code = bytes)
    (h5 : (c.maxLocals == mx && c.exceptionTable.isEmpty && decide (c.maxStack ≤ mostOperands) && decide (meth.sig.returnType = rt) && !meth.locks && decide (parseMethodDescriptor y.desc = some meth.sig)) = true) : (Jvm.Cond.code y bytes mx rt).before a s = true := by
  simp only [Bool.and_eq_true, beq_iff_eq, Bool.not_eq_true', decide_eq_true_eq] at h5
  obtain ⟨⟨⟨⟨⟨g1, g2⟩, g3⟩, g4⟩, g5⟩, g6⟩ := h5
  simp [Cond.before, Cond.holds, Cond.value, h1, h2, h3, h4, g1, g2, g3, g4, g5, g6]
def isCode : Jvm.Cond → Bool
  | .code _ _ _ _ => true
  | _ => false
theorem all_split {L : List Jvm.Cond} {P : Jvm.Cond → Bool} (h1 : L.all (fun c => isCode c || P c) = true) (h2 : ∀ c ∈ L.filter isCode, P c = true) : L.all P = true := by
  refine List.all_eq_true.mpr fun c hc => ?_
  have h := List.all_eq_true.mp h1 c hc
  rcases Bool.eq_false_or_eq_true (isCode c) with hi | hi
  · exact h2 c (List.mem_filter.mpr ⟨hc, hi⟩)
  · simpa [hi] using h
set_option maxRecDepth 65536 in
theorem w_c0 : (Jvm.Cond.code x code maxLocals ret).before args0 about1 = true := code_word (m := ⟨1, 1⟩) (meth := k1m1) (c := k1c1) (by decide +kernel) rfl rfl rfl (by decide +kernel)
set_option maxRecDepth 65536 in
theorem w_c1 : (Jvm.Cond.code ({ cls := "com/example/prefold/prefold/passes/Node$Operator", name := "truth", desc := "()Z" } : Jvm.MethodName) prog_80_method_4_code (1 : Nat) (Option.some Jvm.ClassFile.FieldType.boolean)).before args0 about1 = true := code_word (m := ⟨6, 0⟩) (meth := k6m0) (c := k6c0) (by decide +kernel) rfl rfl rfl (by decide +kernel)
set_option maxRecDepth 65536 in
theorem w_c2 : (Jvm.Cond.code ({ cls := "java/lang/Enum", name := "ordinal", desc := "()I" } : Jvm.MethodName) jdk_37_method_2_code (1 : Nat) (Option.some Jvm.ClassFile.FieldType.int)).before args0 about1 = true := code_word (m := ⟨5, 0⟩) (meth := k5m0) (c := k5c0) (by decide +kernel) rfl rfl rfl (by decide +kernel)
def codes1 : List Jvm.Cond := [Jvm.Cond.code x code maxLocals ret, Jvm.Cond.code ({ cls := "com/example/prefold/prefold/passes/Node$Operator", name := "truth", desc := "()Z" } : Jvm.MethodName) prog_80_method_4_code (1 : Nat) (Option.some Jvm.ClassFile.FieldType.boolean), Jvm.Cond.code ({ cls := "java/lang/Enum", name := "ordinal", desc := "()I" } : Jvm.MethodName) jdk_37_method_2_code (1 : Nat) (Option.some Jvm.ClassFile.FieldType.int)]
set_option maxRecDepth 65536 in
theorem codes_eq : words1.filter isCode = codes1 := rfl
theorem w_codes : ∀ c ∈ words1.filter isCode, c.before args0 about1 = true := by
  rw [codes_eq]
  intro c hc
  simp only [codes1, List.mem_cons, List.not_mem_nil, or_false] at hc
  rcases hc with rfl | rfl | rfl
  · exact w_c0
  · exact w_c1
  · exact w_c2
set_option maxRecDepth 65536 in
theorem w_t1 : (words1.take 24).all (fun c => isCode c || c.before args0 about1) = true := by decide +kernel
set_option maxRecDepth 65536 in
theorem w_t2 : ((words1.drop 24).take 24).all (fun c => isCode c || c.before args0 about1) = true := by decide +kernel
set_option maxRecDepth 65536 in
theorem w_t3 : ((words1.drop 24).drop 24).all (fun c => isCode c || c.before args0 about1) = true := by decide +kernel
theorem w_tables : (allAtoms (Jvm.Cond.code x code maxLocals ret :: tables_1)).before args0 about1 = true := by
  rw [allAtoms_all]
  show words1.all (fun c => c.before args0 about1) = true
  refine all_split ?_ w_codes
  rw [← List.take_append_drop 24 words1, List.all_append, w_t1, ← List.take_append_drop 24 (words1.drop 24), List.all_append, w_t2, w_t3]
  rfl
set_option maxRecDepth 65536 in
theorem w_case : (Jvm.Cond.and given_1 narrow_1).before args0 about1 = true := by decide +kernel
theorem w_applies : (headSpec (Jvm.Cond.code x code maxLocals ret :: tables_1) room_1).applies x e0.platform about1 = true :=
  (Spec.applies_iff w_frames).mpr ⟨w_running, w_runnable, w_alone, w_named, w_hears, w_ripe, w_room, w_tables⟩
theorem atStart : AtStart classFile x code maxLocals ret World_1 tables_1 room_1 Calls_1 rest_1 Pre_1 launch0 p0 e0 about1 theMethod args0 below0 :=
  ⟨lists_1, trivial, launch0.admits_env _ _ _, launch0.least_env, fairChoices_fair.cas, fairChoices_fair.clock, w_frames, w_args, w_heap, w_applies, trivial, trivial, w_case⟩
end start1
theorem witness_1 : WitnessClaimed_1 := ⟨start1.p0, start1.e0, start1.about1, start1.theMethod, start1.args0, start1.below0, start1.atStart⟩
end Jvm.Pilot.@@N@@
