import JvmDerived
import JvmDerived.Pilot.@@N@@Statement
import JvmDerived.Pilot.@@N@@Code
set_option linter.unusedVariables false
set_option linter.unusedSimpArgs false
namespace Jvm.Pilot.@@N@@
open Jvm Jvm.ClassFile Sem Op Lib Jvm.Free Jvm.Stand Jvm.LawKit Jvm.RoadKit Bundle Jvm.Pilot.@@N@@.Jvm.D
/-! The end of a walk, as a goal: from U the run ends, and G holds of the end. -/
def WP (p : Program) (e : Env) (below : List Frame) (G : State → Outcome → Prop) (U : State) : Prop :=
  ∃ s₂ o, Steps p.tables e below U s₂ ∧ s₂.status = .running ∧ Ended s₂ below o ∧ G s₂ o
def GG (Q : Option Value → Heap → List Loc → Prop) (s : State) (k n : Nat) : State → Outcome → Prop :=
  fun t o => ∃ v L, o = .returned v ∧ Q v t.heap L ∧ FrameEnd s o t L k n
theorem own_go {p : Program} {e : Env} {below : List Frame} {G : State → Outcome → Prop} {U V : State} (h : ∀ t, Steps p.tables e below V t → Steps p.tables e below U t) (w : WP p e below G V) : WP p e below G U := by
  obtain ⟨t, o, h1, h2⟩ := w
  exact ⟨t, o, h _ h1, h2⟩
/-- what a body that writes nothing leaves -/
def PQ (h0 : Heap) (n0 : Nat) (w : Value) (v : Option Value) (h : Heap) (L : List Loc) : Prop := v = some w ∧ Fr n0 L ∧ h = h0
/-- what the law leaves -/
def Q0 (n0 : Nat) (v : Option Value) (h : Heap) (L : List Loc) : Prop := v = some (.int 1) ∧ Fr n0 L
section Own
variable {p : Program} {l : Launch} {e : Env} {R : Room} {s : State} {m : MethodId} {args : Array Value} {below : List Frame} {meth : Method} {c : Code} {T : State} {locs : List Loc} {cells slots : Nat}
theorem own_mono (X : Stand p l e R s m args below meth c T locs cells slots) {k n : Nat} (h1 : cells ≤ k) (h2 : slots ≤ n) : Stand p l e R s m args below meth c T locs k n :=
  ⟨X.admits, X.cas, X.clock, X.frames, X.room, X.hears, X.method, X.code, X.here, X.tail, X.warmed, X.limits, X.bytes, X.same.mono h1 h2⟩
theorem own_retI (X : Stand p l e R s m args below meth c T locs cells slots) (hx : p.tables.exec = Jvm.exec) (hnl : meth.locks = false) (hret : meth.sig.returnType = some .int) {pc : Nat} {Ls : Array Slot} {z : Int32} {rest : List Value} (hd : decode c.code pc = .ok (.ireturn, 1)) {Q : Option Value → Heap → List Loc → Prop} {k n : Nat}
    (hq : Q (some (.int z)) T.heap locs) (hc : cells ≤ k) (hs : slots ≤ n) : WP p e below (GG Q s k n) (T.setTop (mkF m pc Ls (.int z :: rest))) := by
  obtain ⟨fs, hr, hrun, hended, hW, hsame⟩ := X.leave (v := some (.int z)) (fun h => by rw [hret] at h; cases h) hnl
  exact ⟨_, _, retOut X hx hret rfl (Or.inl ⟨rfl, Or.inl rfl, z, rfl⟩) hd hr, hrun, hended, _, _, rfl, hq, ⟨_, rfl⟩, hW, hsame.mono hc hs⟩
theorem own_retN (X : Stand p l e R s m args below meth c T locs cells slots) (hx : p.tables.exec = Jvm.exec) (hnl : meth.locks = false) {t : FieldType} (hret : meth.sig.returnType = some t) (ht : t = .boolean ∨ t = .byte ∨ t = .char ∨ t = .short) {pc : Nat} {Ls : Array Slot} {z : Int32} {rest : List Value} (hd : decode c.code pc = .ok (.ireturn, 1)) {Q : Option Value → Heap → List Loc → Prop} {k n : Nat}
    (hq : Q (some (.int (nar t z))) T.heap locs) (hc : cells ≤ k) (hs : slots ≤ n) : WP p e below (GG Q s k n) (T.setTop (mkF m pc Ls (.int z :: rest))) := by
  obtain ⟨fs, hr, hrun, hended, hW, hsame⟩ := X.leave (v := some (.int (nar t z))) (fun h => by rw [hret] at h; cases h) hnl
  exact ⟨_, _, retN X hx hret ht hd hr, hrun, hended, _, _, rfl, hq, ⟨_, rfl⟩, hW, hsame.mono hc hs⟩
theorem own_retZ (X : Stand p l e R s m args below meth c T locs cells slots) (hx : p.tables.exec = Jvm.exec) (hnl : meth.locks = false) (hret : meth.sig.returnType = some .boolean) {pc : Nat} {Ls : Array Slot} {z : Int32} {rest : List Value} (hd : decode c.code pc = .ok (.ireturn, 1)) (hz : z = 0 ∨ z = 1) {Q : Option Value → Heap → List Loc → Prop} {k n : Nat}
    (hq : Q (some (.int z)) T.heap locs) (hc : cells ≤ k) (hs : slots ≤ n) : WP p e below (GG Q s k n) (T.setTop (mkF m pc Ls (.int z :: rest))) := by
  have hb : nar .boolean z = z := by rcases hz with rfl | rfl <;> rfl
  exact own_retN X hx hnl hret (Or.inl rfl) hd (by rw [hb]; exact hq) hc hs
theorem own_retC (X : Stand p l e R s m args below meth c T locs cells slots) (hx : p.tables.exec = Jvm.exec) (hnl : meth.locks = false) (hret : meth.sig.returnType = some .char) {pc : Nat} {Ls : Array Slot} {z : Int32} {rest : List Value} (hd : decode c.code pc = .ok (.ireturn, 1)) {Q : Option Value → Heap → List Loc → Prop} {k n : Nat}
    (hq : Q (some (.int z.toUInt32.toUInt16.toUInt32.toInt32)) T.heap locs) (hc : cells ≤ k) (hs : slots ≤ n) : WP p e below (GG Q s k n) (T.setTop (mkF m pc Ls (.int z :: rest))) :=
  own_retN X hx hnl hret (Or.inr (Or.inr (Or.inl rfl))) hd hq hc hs
theorem own_retB (X : Stand p l e R s m args below meth c T locs cells slots) (hx : p.tables.exec = Jvm.exec) (hnl : meth.locks = false) (hret : meth.sig.returnType = some .byte) {pc : Nat} {Ls : Array Slot} {z : Int32} {rest : List Value} (hd : decode c.code pc = .ok (.ireturn, 1)) {Q : Option Value → Heap → List Loc → Prop} {k n : Nat}
    (hq : Q (some (.int z.toInt8.toInt32)) T.heap locs) (hc : cells ≤ k) (hs : slots ≤ n) : WP p e below (GG Q s k n) (T.setTop (mkF m pc Ls (.int z :: rest))) :=
  own_retN X hx hnl hret (Or.inr (Or.inl rfl)) hd hq hc hs
theorem own_retJ (X : Stand p l e R s m args below meth c T locs cells slots) (hx : p.tables.exec = Jvm.exec) (hnl : meth.locks = false) (hret : meth.sig.returnType = some .long) {pc : Nat} {Ls : Array Slot} {z : Int64} {rest : List Value} (hd : decode c.code pc = .ok (.lreturn, 1)) {Q : Option Value → Heap → List Loc → Prop} {k n : Nat}
    (hq : Q (some (.long z)) T.heap locs) (hc : cells ≤ k) (hs : slots ≤ n) : WP p e below (GG Q s k n) (T.setTop (mkF m pc Ls (.long z :: rest))) := by
  obtain ⟨fs, hr, hrun, hended, hW, hsame⟩ := X.leave (v := some (.long z)) (fun h => by rw [hret] at h; cases h) hnl
  exact ⟨_, _, retOut X hx hret rfl (Or.inr (Or.inl ⟨rfl, rfl, z, rfl⟩)) hd hr, hrun, hended, _, _, rfl, hq, ⟨_, rfl⟩, hW, hsame.mono hc hs⟩
theorem own_retA (X : Stand p l e R s m args below meth c T locs cells slots) (hx : p.tables.exec = Jvm.exec) (hnl : meth.locks = false) {t : FieldType} (hret : meth.sig.returnType = some t) (ht : t.isReference = true) {pc : Nat} {Ls : Array Slot} {w : Value} (hw : w.isRef = true) {rest : List Value} (hd : decode c.code pc = .ok (.areturn, 1)) {Q : Option Value → Heap → List Loc → Prop} {k n : Nat}
    (hq : Q (some w) T.heap locs) (hc : cells ≤ k) (hs : slots ≤ n) : WP p e below (GG Q s k n) (T.setTop (mkF m pc Ls (w :: rest))) := by
  obtain ⟨fs, hr, hrun, hended, hW, hsame⟩ := X.leave (v := some w) (fun h => by rw [hret] at h; cases h) hnl
  have hn : narrow t w = w := by cases t <;> first | rfl | (simp [FieldType.isReference] at ht)
  exact ⟨_, _, retOut X hx hret hn (Or.inr (Or.inr (Or.inr (Or.inr ⟨rfl, ht, hw⟩)))) hd hr, hrun, hended, _, _, rfl, hq, ⟨_, rfl⟩, hW, hsame.mono hc hs⟩
theorem own_ret0 (X : Stand p l e R s m args below meth c T locs cells slots) (hx : p.tables.exec = Jvm.exec) (hnl : meth.locks = false) (hret : meth.sig.returnType = none) {pc : Nat} {Ls : Array Slot} (hd : decode c.code pc = .ok (.return_, 1)) {Q : Option Value → Heap → List Loc → Prop} {k n : Nat}
    (hq : Q none T.heap locs) (hc : cells ≤ k) (hs : slots ≤ n) : WP p e below (GG Q s k n) (T.setTop (mkF m pc Ls [])) := by
  obtain ⟨fs, hr, hrun, hended, hW, hsame⟩ := X.leave (v := none) (fun _ => rfl) hnl
  exact ⟨_, _, X.returnOut hx hret hd hr, hrun, hended, _, _, rfl, hq, ⟨_, rfl⟩, hW, hsame.mono hc hs⟩
end Own

def f1 (p1 : Int32) (p2 : Int32) : Int32 := (if p2 < p1 then p2 else p1)
theorem d1_0 : decode jdk_29_method_69_code 0 = .ok (.iload_n 0, 1) := by decide +kernel
theorem d1_1 : decode jdk_29_method_69_code 1 = .ok (.iload_n 1, 1) := by decide +kernel
theorem d1_2 : decode jdk_29_method_69_code 2 = .ok (.if_icmp .gt 7, 3) := by decide +kernel
theorem d1_5 : decode jdk_29_method_69_code 5 = .ok (.iload_n 0, 1) := by decide +kernel
theorem d1_6 : decode jdk_29_method_69_code 6 = .ok (.goto 4, 3) := by decide +kernel
theorem d1_9 : decode jdk_29_method_69_code 9 = .ok (.iload_n 1, 1) := by decide +kernel
theorem d1_10 : decode jdk_29_method_69_code 10 = .ok (.ireturn, 1) := by decide +kernel
theorem ef_rm1 (m : MethodId) (x0 : Int32) (x1 : Int32) : entryFrame m #[(.int x0), (.int x1)] 2 = mkF m 0 #[.val (.int x0), .val (.int x1)] [] := by first | (simp [entryFrame, mkF, argsToLocals, Value.category]; done) | rfl
set_option maxRecDepth 65536 in
set_option maxHeartbeats 40000000 in
theorem rm1 (l : Launch) (Z : State) (a0 : Array Value) (hw : ∀ d ∈ tables_1, d.before a0 Z = true) (ws : List Jvm.Cond) (p1 : Int32) (p2 : Int32) (h0 : Heap) (n0 : Nat) :
    MetFree l (⟨"java/lang/Math", "min", "(II)I"⟩ : MethodName) (head1 (Jvm.Cond.code (⟨"java/lang/Math", "min", "(II)I"⟩ : MethodName) jdk_29_method_69_code 2 (some .int) :: ws) ({ frames := 0, cells := 0, slots := 0, locals := 0 } : Room)) (fun a U => a = #[(.int p1), (.int p2)] ∧ Z.Warmed39 U.vm ∧ U.heap = h0) (fun _ _ _ _ _ => True) (fun _ U o U' => ∃ v L, o = .returned v ∧ (PQ h0 n0 (.int (f1 p1 p2))) v U'.heap L ∧ FrameEnd U o U' L ({ frames := 0, cells := 0, slots := 0, locals := 0 } : Room).cells ({ frames := 0, cells := 0, slots := 0, locals := 0 } : Room).slots) := by
  refine MetFree.of_bodySF (Jvm.Free.JP.mathPlain rfl (by decide +kernel)) hisR ?_
  intro p e s m args below meth c s₁ Bd hml0 hP hK
  obtain ⟨rfl, hZ, hh⟩ := hP
  have hx := Bd.exec
  have hby := Bd.bytes
  have hml : c.maxLocals = 2 := hml0
  have hown : s.vm.findClass "java/lang/Math" = some m.cls := findClass_of_methodNamed Bd.named
  have hnm := (name_of_methodNamed Bd.named Bd.method).1
  have X0 : Stand p l e ({ frames := 0, cells := 0, slots := 0, locals := 0 } : Room) s m #[(.int p1), (.int p2)] below meth c s₁ [] 0 0 := Stand.of_body Bd
  have e0 : s₁.heap = h0 := by rw [← hh, Bd.state]; rfl
  have N0 := Fr.nil n0
  show WP p e below (GG (PQ h0 n0 (.int (f1 p1 p2))) s ({ frames := 0, cells := 0, slots := 0, locals := 0 } : Room).cells ({ frames := 0, cells := 0, slots := 0, locals := 0 } : Room).slots) (s₁.setTop (entryFrame m #[(.int p1), (.int p2)] 2))
  rw [ef_rm1 m p1 p2]
  show WP p e below _ (s₁.setTop (mkF m 0 #[.val (.int p1), .val (.int p2)] []))
  refine own_go (fun t_ k => XS.iloadN X0.here hx rfl (hb hby d1_0) rfl k) ?_
  show WP p e below _ (s₁.setTop (mkF m 1 #[.val (.int p1), .val (.int p2)] [(.int p1)]))
  refine own_go (fun t_ k => XS.iloadN X0.here hx rfl (hb hby d1_1) rfl k) ?_
  show WP p e below _ (s₁.setTop (mkF m 2 #[.val (.int p1), .val (.int p2)] [(.int p2), (.int p1)]))
  by_cases hc2_1 : p2 < p1
  · refine own_go (fun t_ k => XS.icmpYes X0.here hx rfl (pc0 := 2) (pc' := 9) rfl (hb hby d1_2) rfl (tlt hc2_1).2.2.1 (by decide) (by decide) k) ?_
    show WP p e below _ (s₁.setTop (mkF m 9 #[.val (.int p1), .val (.int p2)] []))
    refine own_go (fun t_ k => XS.iloadN X0.here hx rfl (hb hby d1_9) rfl k) ?_
    show WP p e below _ (s₁.setTop (mkF m 10 #[.val (.int p1), .val (.int p2)] [(.int p2)]))
    exact own_retI X0 hx Bd.notSynchronized Bd.returns (hb hby d1_10) (show PQ h0 n0 (.int (f1 p1 p2)) _ _ _ from ⟨by rw [f1, if_pos hc2_1], N0, e0⟩) (by decide) (by decide)
  · refine own_go (fun t_ k => XS.icmpNo X0.here hx rfl (hb hby d1_2) rfl (flt hc2_1).2.2.1 k) ?_
    show WP p e below _ (s₁.setTop (mkF m 5 #[.val (.int p1), .val (.int p2)] []))
    refine own_go (fun t_ k => XS.iloadN X0.here hx rfl (hb hby d1_5) rfl k) ?_
    show WP p e below _ (s₁.setTop (mkF m 6 #[.val (.int p1), .val (.int p2)] [(.int p1)]))
    refine own_go (fun t_ k => XS.goto X0.here hx rfl (pc0 := 6) (pc' := 10) rfl (hb hby d1_6) (by decide) (by decide) k) ?_
    show WP p e below _ (s₁.setTop (mkF m 10 #[.val (.int p1), .val (.int p2)] [(.int p1)]))
    exact own_retI X0 hx Bd.notSynchronized Bd.returns (hb hby d1_10) (show PQ h0 n0 (.int (f1 p1 p2)) _ _ _ from ⟨by rw [f1, if_neg hc2_1], N0, e0⟩) (by decide) (by decide)
def f2 (p1 : Int32) (p2 : Int32) : Int32 := (if p1 < p2 then p2 else p1)
theorem d2_0 : decode jdk_29_method_65_code 0 = .ok (.iload_n 0, 1) := by decide +kernel
theorem d2_1 : decode jdk_29_method_65_code 1 = .ok (.iload_n 1, 1) := by decide +kernel
theorem d2_2 : decode jdk_29_method_65_code 2 = .ok (.if_icmp .lt 7, 3) := by decide +kernel
theorem d2_5 : decode jdk_29_method_65_code 5 = .ok (.iload_n 0, 1) := by decide +kernel
theorem d2_6 : decode jdk_29_method_65_code 6 = .ok (.goto 4, 3) := by decide +kernel
theorem d2_9 : decode jdk_29_method_65_code 9 = .ok (.iload_n 1, 1) := by decide +kernel
theorem d2_10 : decode jdk_29_method_65_code 10 = .ok (.ireturn, 1) := by decide +kernel
theorem ef_rm2 (m : MethodId) (x0 : Int32) (x1 : Int32) : entryFrame m #[(.int x0), (.int x1)] 2 = mkF m 0 #[.val (.int x0), .val (.int x1)] [] := by first | (simp [entryFrame, mkF, argsToLocals, Value.category]; done) | rfl
set_option maxRecDepth 65536 in
set_option maxHeartbeats 40000000 in
theorem rm2 (l : Launch) (Z : State) (a0 : Array Value) (hw : ∀ d ∈ tables_1, d.before a0 Z = true) (ws : List Jvm.Cond) (p1 : Int32) (p2 : Int32) (h0 : Heap) (n0 : Nat) :
    MetFree l (⟨"java/lang/Math", "max", "(II)I"⟩ : MethodName) (head1 (Jvm.Cond.code (⟨"java/lang/Math", "max", "(II)I"⟩ : MethodName) jdk_29_method_65_code 2 (some .int) :: ws) ({ frames := 0, cells := 0, slots := 0, locals := 0 } : Room)) (fun a U => a = #[(.int p1), (.int p2)] ∧ Z.Warmed39 U.vm ∧ U.heap = h0) (fun _ _ _ _ _ => True) (fun _ U o U' => ∃ v L, o = .returned v ∧ (PQ h0 n0 (.int (f2 p1 p2))) v U'.heap L ∧ FrameEnd U o U' L ({ frames := 0, cells := 0, slots := 0, locals := 0 } : Room).cells ({ frames := 0, cells := 0, slots := 0, locals := 0 } : Room).slots) := by
  refine MetFree.of_bodySF (Jvm.Free.JP.mathPlain rfl (by decide +kernel)) hisR ?_
  intro p e s m args below meth c s₁ Bd hml0 hP hK
  obtain ⟨rfl, hZ, hh⟩ := hP
  have hx := Bd.exec
  have hby := Bd.bytes
  have hml : c.maxLocals = 2 := hml0
  have hown : s.vm.findClass "java/lang/Math" = some m.cls := findClass_of_methodNamed Bd.named
  have hnm := (name_of_methodNamed Bd.named Bd.method).1
  have X0 : Stand p l e ({ frames := 0, cells := 0, slots := 0, locals := 0 } : Room) s m #[(.int p1), (.int p2)] below meth c s₁ [] 0 0 := Stand.of_body Bd
  have e0 : s₁.heap = h0 := by rw [← hh, Bd.state]; rfl
  have N0 := Fr.nil n0
  show WP p e below (GG (PQ h0 n0 (.int (f2 p1 p2))) s ({ frames := 0, cells := 0, slots := 0, locals := 0 } : Room).cells ({ frames := 0, cells := 0, slots := 0, locals := 0 } : Room).slots) (s₁.setTop (entryFrame m #[(.int p1), (.int p2)] 2))
  rw [ef_rm2 m p1 p2]
  show WP p e below _ (s₁.setTop (mkF m 0 #[.val (.int p1), .val (.int p2)] []))
  refine own_go (fun t_ k => XS.iloadN X0.here hx rfl (hb hby d2_0) rfl k) ?_
  show WP p e below _ (s₁.setTop (mkF m 1 #[.val (.int p1), .val (.int p2)] [(.int p1)]))
  refine own_go (fun t_ k => XS.iloadN X0.here hx rfl (hb hby d2_1) rfl k) ?_
  show WP p e below _ (s₁.setTop (mkF m 2 #[.val (.int p1), .val (.int p2)] [(.int p2), (.int p1)]))
  by_cases hc2_1 : p1 < p2
  · refine own_go (fun t_ k => XS.icmpYes X0.here hx rfl (pc0 := 2) (pc' := 9) rfl (hb hby d2_2) rfl (tlt hc2_1).1 (by decide) (by decide) k) ?_
    show WP p e below _ (s₁.setTop (mkF m 9 #[.val (.int p1), .val (.int p2)] []))
    refine own_go (fun t_ k => XS.iloadN X0.here hx rfl (hb hby d2_9) rfl k) ?_
    show WP p e below _ (s₁.setTop (mkF m 10 #[.val (.int p1), .val (.int p2)] [(.int p2)]))
    exact own_retI X0 hx Bd.notSynchronized Bd.returns (hb hby d2_10) (show PQ h0 n0 (.int (f2 p1 p2)) _ _ _ from ⟨by rw [f2, if_pos hc2_1], N0, e0⟩) (by decide) (by decide)
  · refine own_go (fun t_ k => XS.icmpNo X0.here hx rfl (hb hby d2_2) rfl (flt hc2_1).1 k) ?_
    show WP p e below _ (s₁.setTop (mkF m 5 #[.val (.int p1), .val (.int p2)] []))
    refine own_go (fun t_ k => XS.iloadN X0.here hx rfl (hb hby d2_5) rfl k) ?_
    show WP p e below _ (s₁.setTop (mkF m 6 #[.val (.int p1), .val (.int p2)] [(.int p1)]))
    refine own_go (fun t_ k => XS.goto X0.here hx rfl (pc0 := 6) (pc' := 10) rfl (hb hby d2_6) (by decide) (by decide) k) ?_
    show WP p e below _ (s₁.setTop (mkF m 10 #[.val (.int p1), .val (.int p2)] [(.int p1)]))
    exact own_retI X0 hx Bd.notSynchronized Bd.returns (hb hby d2_10) (show PQ h0 n0 (.int (f2 p1 p2)) _ _ _ from ⟨by rw [f2, if_neg hc2_1], N0, e0⟩) (by decide) (by decide)
def f3 (p1 : Int32) (p2 : Int32) (p3 : Int32) (p4 : Int32) (p5 : Int32) (p6 : Int32) : Int32 := (if (f1 p2 p5) < (f2 p1 p4) then (0 : Int32) else (if (((32 : Int64) * (p3.toInt64)) * (((p5.toInt64) - (p4.toInt64)) + (1 : Int64))) < ((p6.toInt64) * (((p2.toInt64) - (p1.toInt64)) + (1 : Int64))) then (1 : Int32) else (if (((32 : Int64) * (p6.toInt64)) * (((p2.toInt64) - (p1.toInt64)) + (1 : Int64))) < ((p3.toInt64) * (((p5.toInt64) - (p4.toInt64)) + (1 : Int64))) then (2 : Int32) else (3 : Int32))))
theorem pd_0 : parseMethodDescriptor "(II)I" = some ⟨[.int, .int], some .int⟩ := by decide +kernel
theorem d3_0 : decode method_3_code 0 = .ok (.iload_n 0, 1) := by decide +kernel
theorem d3_1 : decode method_3_code 1 = .ok (.iload_n 3, 1) := by decide +kernel
theorem d3_2 : decode method_3_code 2 = .ok (.invokestatic 13, 3) := by decide +kernel
theorem d3_5 : decode method_3_code 5 = .ok (.istore 6, 2) := by decide +kernel
theorem d3_7 : decode method_3_code 7 = .ok (.iload_n 1, 1) := by decide +kernel
theorem d3_8 : decode method_3_code 8 = .ok (.iload 4, 2) := by decide +kernel
theorem d3_10 : decode method_3_code 10 = .ok (.invokestatic 7, 3) := by decide +kernel
theorem d3_13 : decode method_3_code 13 = .ok (.istore 7, 2) := by decide +kernel
theorem d3_15 : decode method_3_code 15 = .ok (.iload 6, 2) := by decide +kernel
theorem d3_17 : decode method_3_code 17 = .ok (.iload 7, 2) := by decide +kernel
theorem d3_19 : decode method_3_code 19 = .ok (.if_icmp .le 5, 3) := by decide +kernel
theorem d3_22 : decode method_3_code 22 = .ok (.iconst 0, 1) := by decide +kernel
theorem d3_23 : decode method_3_code 23 = .ok (.ireturn, 1) := by decide +kernel
theorem d3_24 : decode method_3_code 24 = .ok (.iload_n 1, 1) := by decide +kernel
theorem d3_25 : decode method_3_code 25 = .ok (.i2l, 1) := by decide +kernel
theorem d3_26 : decode method_3_code 26 = .ok (.iload_n 0, 1) := by decide +kernel
theorem d3_27 : decode method_3_code 27 = .ok (.i2l, 1) := by decide +kernel
theorem d3_28 : decode method_3_code 28 = .ok (.lsub, 1) := by decide +kernel
theorem d3_29 : decode method_3_code 29 = .ok (.lconst 1, 1) := by decide +kernel
theorem d3_30 : decode method_3_code 30 = .ok (.ladd, 1) := by decide +kernel
theorem d3_31 : decode method_3_code 31 = .ok (.lstore 8, 2) := by decide +kernel
theorem d3_33 : decode method_3_code 33 = .ok (.iload 4, 2) := by decide +kernel
theorem d3_35 : decode method_3_code 35 = .ok (.i2l, 1) := by decide +kernel
theorem d3_36 : decode method_3_code 36 = .ok (.iload_n 3, 1) := by decide +kernel
theorem d3_37 : decode method_3_code 37 = .ok (.i2l, 1) := by decide +kernel
theorem d3_38 : decode method_3_code 38 = .ok (.lsub, 1) := by decide +kernel
theorem d3_39 : decode method_3_code 39 = .ok (.lconst 1, 1) := by decide +kernel
theorem d3_40 : decode method_3_code 40 = .ok (.ladd, 1) := by decide +kernel
theorem d3_41 : decode method_3_code 41 = .ok (.lstore 10, 2) := by decide +kernel
theorem d3_43 : decode method_3_code 43 = .ok (.ldc2_w 32, 3) := by decide +kernel
theorem d3_46 : decode method_3_code 46 = .ok (.iload_n 2, 1) := by decide +kernel
theorem d3_47 : decode method_3_code 47 = .ok (.i2l, 1) := by decide +kernel
theorem d3_48 : decode method_3_code 48 = .ok (.lmul, 1) := by decide +kernel
theorem d3_49 : decode method_3_code 49 = .ok (.lload 10, 2) := by decide +kernel
theorem d3_51 : decode method_3_code 51 = .ok (.lmul, 1) := by decide +kernel
theorem d3_52 : decode method_3_code 52 = .ok (.iload 5, 2) := by decide +kernel
theorem d3_54 : decode method_3_code 54 = .ok (.i2l, 1) := by decide +kernel
theorem d3_55 : decode method_3_code 55 = .ok (.lload 8, 2) := by decide +kernel
theorem d3_57 : decode method_3_code 57 = .ok (.lmul, 1) := by decide +kernel
theorem d3_58 : decode method_3_code 58 = .ok (.lcmp, 1) := by decide +kernel
theorem d3_59 : decode method_3_code 59 = .ok (.ifCond .ge 5, 3) := by decide +kernel
theorem d3_62 : decode method_3_code 62 = .ok (.iconst 1, 1) := by decide +kernel
theorem d3_63 : decode method_3_code 63 = .ok (.ireturn, 1) := by decide +kernel
theorem d3_64 : decode method_3_code 64 = .ok (.ldc2_w 32, 3) := by decide +kernel
theorem d3_67 : decode method_3_code 67 = .ok (.iload 5, 2) := by decide +kernel
theorem d3_69 : decode method_3_code 69 = .ok (.i2l, 1) := by decide +kernel
theorem d3_70 : decode method_3_code 70 = .ok (.lmul, 1) := by decide +kernel
theorem d3_71 : decode method_3_code 71 = .ok (.lload 8, 2) := by decide +kernel
theorem d3_73 : decode method_3_code 73 = .ok (.lmul, 1) := by decide +kernel
theorem d3_74 : decode method_3_code 74 = .ok (.iload_n 2, 1) := by decide +kernel
theorem d3_75 : decode method_3_code 75 = .ok (.i2l, 1) := by decide +kernel
theorem d3_76 : decode method_3_code 76 = .ok (.lload 10, 2) := by decide +kernel
theorem d3_78 : decode method_3_code 78 = .ok (.lmul, 1) := by decide +kernel
theorem d3_79 : decode method_3_code 79 = .ok (.lcmp, 1) := by decide +kernel
theorem d3_80 : decode method_3_code 80 = .ok (.ifCond .ge 5, 3) := by decide +kernel
theorem d3_83 : decode method_3_code 83 = .ok (.iconst 2, 1) := by decide +kernel
theorem d3_84 : decode method_3_code 84 = .ok (.ireturn, 1) := by decide +kernel
theorem d3_85 : decode method_3_code 85 = .ok (.iconst 3, 1) := by decide +kernel
theorem d3_86 : decode method_3_code 86 = .ok (.ireturn, 1) := by decide +kernel
theorem pn_0 : plainName "com/example/cairn/cairn/ArrayMeetingWayPinLaw" = true := by first | (simp [plainName, overriddenIn]; done) | decide +kernel
theorem ef_rm3 (m : MethodId) (x0 : Int32) (x1 : Int32) (x2 : Int32) (x3 : Int32) (x4 : Int32) (x5 : Int32) : entryFrame m #[(.int x0), (.int x1), (.int x2), (.int x3), (.int x4), (.int x5)] 12 = mkF m 0 #[.val (.int x0), .val (.int x1), .val (.int x2), .val (.int x3), .val (.int x4), .val (.int x5), .unset, .unset, .unset, .unset, .unset, .unset] [] := by first | (simp [entryFrame, mkF, argsToLocals, Value.category]; done) | rfl
set_option maxRecDepth 65536 in
set_option maxHeartbeats 40000000 in
theorem rm3 (l : Launch) (Z : State) (a0 : Array Value) (hw : ∀ d ∈ tables_1, d.before a0 Z = true) (ws : List Jvm.Cond) (p1 : Int32) (p2 : Int32) (p3 : Int32) (p4 : Int32) (p5 : Int32) (p6 : Int32) (h0 : Heap) (n0 : Nat) :
    MetFree l (⟨"com/example/cairn/cairn/ArrayMeetingWayPinLaw", "expected", "(CCICCI)I"⟩ : MethodName) (head1 (Jvm.Cond.code (⟨"com/example/cairn/cairn/ArrayMeetingWayPinLaw", "expected", "(CCICCI)I"⟩ : MethodName) method_3_code 12 (some .int) :: ws) ({ frames := 1, cells := 0, slots := 0, locals := 13 } : Room)) (fun a U => a = #[(.int p1), (.int p2), (.int p3), (.int p4), (.int p5), (.int p6)] ∧ Z.Warmed39 U.vm ∧ U.heap = h0) (fun _ _ _ _ _ => True) (fun _ U o U' => ∃ v L, o = .returned v ∧ (PQ h0 n0 (.int (f3 p1 p2 p3 p4 p5 p6))) v U'.heap L ∧ FrameEnd U o U' L ({ frames := 1, cells := 0, slots := 0, locals := 13 } : Room).cells ({ frames := 1, cells := 0, slots := 0, locals := 13 } : Room).slots) := by
  refine MetFree.of_bodySF (plainFor_of_name pn_0) hisR ?_
  intro p e s m args below meth c s₁ Bd hml0 hP hK
  obtain ⟨rfl, hZ, hh⟩ := hP
  have hx := Bd.exec
  have hby := Bd.bytes
  have hml : c.maxLocals = 12 := hml0
  have hown : s.vm.findClass "com/example/cairn/cairn/ArrayMeetingWayPinLaw" = some m.cls := findClass_of_methodNamed Bd.named
  have hnm := (name_of_methodNamed Bd.named Bd.method).1
  have X0 : Stand p l e ({ frames := 1, cells := 0, slots := 0, locals := 13 } : Room) s m #[(.int p1), (.int p2), (.int p3), (.int p4), (.int p5), (.int p6)] below meth c s₁ [] 0 0 := Stand.of_body Bd
  have e0 : s₁.heap = h0 := by rw [← hh, Bd.state]; rfl
  have N0 := Fr.nil n0
  show WP p e below (GG (PQ h0 n0 (.int (f3 p1 p2 p3 p4 p5 p6))) s ({ frames := 1, cells := 0, slots := 0, locals := 13 } : Room).cells ({ frames := 1, cells := 0, slots := 0, locals := 13 } : Room).slots) (s₁.setTop (entryFrame m #[(.int p1), (.int p2), (.int p3), (.int p4), (.int p5), (.int p6)] 12))
  rw [ef_rm3 m p1 p2 p3 p4 p5 p6]
  show WP p e below _ (s₁.setTop (mkF m 0 #[.val (.int p1), .val (.int p2), .val (.int p3), .val (.int p4), .val (.int p5), .val (.int p6), .unset, .unset, .unset, .unset, .unset, .unset] []))
  refine own_go (fun t_ k => XS.iloadN X0.here hx rfl (hb hby d3_0) rfl k) ?_
  show WP p e below _ (s₁.setTop (mkF m 1 #[.val (.int p1), .val (.int p2), .val (.int p3), .val (.int p4), .val (.int p5), .val (.int p6), .unset, .unset, .unset, .unset, .unset, .unset] [(.int p1)]))
  refine own_go (fun t_ k => XS.iloadN X0.here hx rfl (hb hby d3_1) rfl k) ?_
  show WP p e below _ (s₁.setTop (mkF m 2 #[.val (.int p1), .val (.int p2), .val (.int p3), .val (.int p4), .val (.int p5), .val (.int p6), .unset, .unset, .unset, .unset, .unset, .unset] [(.int p4), (.int p1)]))
  obtain ⟨_, _, ⟨T1, L1, k1, n1⟩, -, X1, ⟨Lc1, hQ1, l1, y1, z1⟩, st1⟩ := Jvm.LawKit.callS X0 hx (y := (⟨"java/lang/Math", "max", "(II)I"⟩ : MethodName)) hown (mvT hZ (hw _ (List.mem_of_getElem? (i := 4) rfl))) (mvT hZ (hw _ (List.mem_of_getElem? (i := 5) rfl))) (mvT hZ (hw _ (List.mem_of_getElem? (i := 2) rfl))) (mvT hZ (hw _ (List.mem_of_getElem? (i := 6) rfl))) (by decide) (backOf (W := 0) (rm2 l Z a0 hw [] p1 p4 h0 n0) hZ (hw _ (List.mem_of_getElem? (i := 6) rfl)) (hw _ (List.mem_of_getElem? (i := 2) rfl)) (by decide) (by decide)) (g := (mkF m 2 #[.val (.int p1), .val (.int p2), .val (.int p3), .val (.int p4), .val (.int p5), .val (.int p6), .unset, .unset, .unset, .unset, .unset, .unset] [(.int p4), (.int p1)])) rfl (by rw [hml]; rfl) (argsL := [(.int p1), (.int p4)]) (rest := []) (lenOf pd_0 rfl) rfl (by show 2 * 0 + _ ≤ _; exact Nat.le_of_eq rfl) (hb hby d3_2) (fun _ _ => ⟨rfl, e0, (by decide : 0 + 0 ≤ _), (by decide : 0 + 0 ≤ _)⟩)
  dsimp only [Pt.U, Pt.locs, Pt.cells, Pt.slots] at X1 l1 y1 z1 st1 hQ1
  subst l1 y1 z1
  obtain ⟨rfl, N1q, e1⟩ := hQ1
  have N1 := Fr.app N0 N1q
  replace X1 : Stand p l e ({ frames := 1, cells := 0, slots := 0, locals := 13 } : Room) s m _ below meth c T1 _ 0 0 := X1
  refine own_go st1 ?_
  show WP p e below _ (T1.setTop (mkF m 5 #[.val (.int p1), .val (.int p2), .val (.int p3), .val (.int p4), .val (.int p5), .val (.int p6), .unset, .unset, .unset, .unset, .unset, .unset] [(.int (f2 p1 p4))]))
  refine own_go (fun t_ k => XS.istore X1.here hx rfl (hb hby d3_5) rfl (l' := #[.val (.int p1), .val (.int p2), .val (.int p3), .val (.int p4), .val (.int p5), .val (.int p6), .val (.int (f2 p1 p4)), .unset, .unset, .unset, .unset, .unset]) rfl k) ?_
  show WP p e below _ (T1.setTop (mkF m 7 #[.val (.int p1), .val (.int p2), .val (.int p3), .val (.int p4), .val (.int p5), .val (.int p6), .val (.int (f2 p1 p4)), .unset, .unset, .unset, .unset, .unset] []))
  refine own_go (fun t_ k => XS.iloadN X1.here hx rfl (hb hby d3_7) rfl k) ?_
  show WP p e below _ (T1.setTop (mkF m 8 #[.val (.int p1), .val (.int p2), .val (.int p3), .val (.int p4), .val (.int p5), .val (.int p6), .val (.int (f2 p1 p4)), .unset, .unset, .unset, .unset, .unset] [(.int p2)]))
  refine own_go (fun t_ k => XS.iload X1.here hx rfl (hb hby d3_8) rfl k) ?_
  show WP p e below _ (T1.setTop (mkF m 10 #[.val (.int p1), .val (.int p2), .val (.int p3), .val (.int p4), .val (.int p5), .val (.int p6), .val (.int (f2 p1 p4)), .unset, .unset, .unset, .unset, .unset] [(.int p5), (.int p2)]))
  obtain ⟨_, _, ⟨T2, L2, k2, n2⟩, -, X2, ⟨Lc2, hQ2, l2, y2, z2⟩, st2⟩ := Jvm.LawKit.callS X1 hx (y := (⟨"java/lang/Math", "min", "(II)I"⟩ : MethodName)) hown (mvT hZ (hw _ (List.mem_of_getElem? (i := 0) rfl))) (mvT hZ (hw _ (List.mem_of_getElem? (i := 1) rfl))) (mvT hZ (hw _ (List.mem_of_getElem? (i := 2) rfl))) (mvT hZ (hw _ (List.mem_of_getElem? (i := 3) rfl))) (by decide) (backOf (W := 0) (rm1 l Z a0 hw [] p2 p5 h0 n0) hZ (hw _ (List.mem_of_getElem? (i := 3) rfl)) (hw _ (List.mem_of_getElem? (i := 2) rfl)) (by decide) (by decide)) (g := (mkF m 10 #[.val (.int p1), .val (.int p2), .val (.int p3), .val (.int p4), .val (.int p5), .val (.int p6), .val (.int (f2 p1 p4)), .unset, .unset, .unset, .unset, .unset] [(.int p5), (.int p2)])) rfl (by rw [hml]; rfl) (argsL := [(.int p2), (.int p5)]) (rest := []) (lenOf pd_0 rfl) rfl (by show 2 * 0 + _ ≤ _; exact Nat.le_of_eq rfl) (hb hby d3_10) (fun _ _ => ⟨rfl, e1, (by decide : 0 + 0 ≤ _), (by decide : 0 + 0 ≤ _)⟩)
  dsimp only [Pt.U, Pt.locs, Pt.cells, Pt.slots] at X2 l2 y2 z2 st2 hQ2
  subst l2 y2 z2
  obtain ⟨rfl, N2q, e2⟩ := hQ2
  have N2 := Fr.app N1 N2q
  replace X2 : Stand p l e ({ frames := 1, cells := 0, slots := 0, locals := 13 } : Room) s m _ below meth c T2 _ 0 0 := X2
  refine own_go st2 ?_
  show WP p e below _ (T2.setTop (mkF m 13 #[.val (.int p1), .val (.int p2), .val (.int p3), .val (.int p4), .val (.int p5), .val (.int p6), .val (.int (f2 p1 p4)), .unset, .unset, .unset, .unset, .unset] [(.int (f1 p2 p5))]))
  refine own_go (fun t_ k => XS.istore X2.here hx rfl (hb hby d3_13) rfl (l' := #[.val (.int p1), .val (.int p2), .val (.int p3), .val (.int p4), .val (.int p5), .val (.int p6), .val (.int (f2 p1 p4)), .val (.int (f1 p2 p5)), .unset, .unset, .unset, .unset]) rfl k) ?_
  show WP p e below _ (T2.setTop (mkF m 15 #[.val (.int p1), .val (.int p2), .val (.int p3), .val (.int p4), .val (.int p5), .val (.int p6), .val (.int (f2 p1 p4)), .val (.int (f1 p2 p5)), .unset, .unset, .unset, .unset] []))
  refine own_go (fun t_ k => XS.iload X2.here hx rfl (hb hby d3_15) rfl k) ?_
  show WP p e below _ (T2.setTop (mkF m 17 #[.val (.int p1), .val (.int p2), .val (.int p3), .val (.int p4), .val (.int p5), .val (.int p6), .val (.int (f2 p1 p4)), .val (.int (f1 p2 p5)), .unset, .unset, .unset, .unset] [(.int (f2 p1 p4))]))
  refine own_go (fun t_ k => XS.iload X2.here hx rfl (hb hby d3_17) rfl k) ?_
  show WP p e below _ (T2.setTop (mkF m 19 #[.val (.int p1), .val (.int p2), .val (.int p3), .val (.int p4), .val (.int p5), .val (.int p6), .val (.int (f2 p1 p4)), .val (.int (f1 p2 p5)), .unset, .unset, .unset, .unset] [(.int (f1 p2 p5)), (.int (f2 p1 p4))]))
  by_cases hc19_3 : (f1 p2 p5) < (f2 p1 p4)
  · refine own_go (fun t_ k => XS.icmpNo X2.here hx rfl (hb hby d3_19) rfl (tlt hc19_3).2.2.2 k) ?_
    show WP p e below _ (T2.setTop (mkF m 22 #[.val (.int p1), .val (.int p2), .val (.int p3), .val (.int p4), .val (.int p5), .val (.int p6), .val (.int (f2 p1 p4)), .val (.int (f1 p2 p5)), .unset, .unset, .unset, .unset] []))
    refine own_go (fun t_ k => XS.iconst X2.here hx rfl (hb hby d3_22) k) ?_
    show WP p e below _ (T2.setTop (mkF m 23 #[.val (.int p1), .val (.int p2), .val (.int p3), .val (.int p4), .val (.int p5), .val (.int p6), .val (.int (f2 p1 p4)), .val (.int (f1 p2 p5)), .unset, .unset, .unset, .unset] [(.int (0 : Int32))]))
    exact own_retI X2 hx Bd.notSynchronized Bd.returns (hb hby d3_23) (show PQ h0 n0 (.int (f3 p1 p2 p3 p4 p5 p6)) _ _ _ from ⟨by rw [f3, if_pos hc19_3], N2, e2⟩) (by decide) (by decide)
  · refine own_go (fun t_ k => XS.icmpYes X2.here hx rfl (pc0 := 19) (pc' := 24) rfl (hb hby d3_19) rfl (flt hc19_3).2.2.2 (by decide) (by decide) k) ?_
    show WP p e below _ (T2.setTop (mkF m 24 #[.val (.int p1), .val (.int p2), .val (.int p3), .val (.int p4), .val (.int p5), .val (.int p6), .val (.int (f2 p1 p4)), .val (.int (f1 p2 p5)), .unset, .unset, .unset, .unset] []))
    refine own_go (fun t_ k => XS.iloadN X2.here hx rfl (hb hby d3_24) rfl k) ?_
    show WP p e below _ (T2.setTop (mkF m 25 #[.val (.int p1), .val (.int p2), .val (.int p3), .val (.int p4), .val (.int p5), .val (.int p6), .val (.int (f2 p1 p4)), .val (.int (f1 p2 p5)), .unset, .unset, .unset, .unset] [(.int p2)]))
    refine own_go (fun t_ k => XS.i2l X2.here hx rfl (hb hby d3_25) rfl k) ?_
    show WP p e below _ (T2.setTop (mkF m 26 #[.val (.int p1), .val (.int p2), .val (.int p3), .val (.int p4), .val (.int p5), .val (.int p6), .val (.int (f2 p1 p4)), .val (.int (f1 p2 p5)), .unset, .unset, .unset, .unset] [(.long (p2.toInt64))]))
    refine own_go (fun t_ k => XS.iloadN X2.here hx rfl (hb hby d3_26) rfl k) ?_
    show WP p e below _ (T2.setTop (mkF m 27 #[.val (.int p1), .val (.int p2), .val (.int p3), .val (.int p4), .val (.int p5), .val (.int p6), .val (.int (f2 p1 p4)), .val (.int (f1 p2 p5)), .unset, .unset, .unset, .unset] [(.int p1), (.long (p2.toInt64))]))
    refine own_go (fun t_ k => XS.i2l X2.here hx rfl (hb hby d3_27) rfl k) ?_
    show WP p e below _ (T2.setTop (mkF m 28 #[.val (.int p1), .val (.int p2), .val (.int p3), .val (.int p4), .val (.int p5), .val (.int p6), .val (.int (f2 p1 p4)), .val (.int (f1 p2 p5)), .unset, .unset, .unset, .unset] [(.long (p1.toInt64)), (.long (p2.toInt64))]))
    refine own_go (fun t_ k => XS.lsub X2.here hx rfl (hb hby d3_28) rfl k) ?_
    show WP p e below _ (T2.setTop (mkF m 29 #[.val (.int p1), .val (.int p2), .val (.int p3), .val (.int p4), .val (.int p5), .val (.int p6), .val (.int (f2 p1 p4)), .val (.int (f1 p2 p5)), .unset, .unset, .unset, .unset] [(.long ((p2.toInt64) - (p1.toInt64)))]))
    refine own_go (fun t_ k => XS.lconst X2.here hx rfl (hb hby d3_29) k) ?_
    show WP p e below _ (T2.setTop (mkF m 30 #[.val (.int p1), .val (.int p2), .val (.int p3), .val (.int p4), .val (.int p5), .val (.int p6), .val (.int (f2 p1 p4)), .val (.int (f1 p2 p5)), .unset, .unset, .unset, .unset] [(.long (1 : Int64)), (.long ((p2.toInt64) - (p1.toInt64)))]))
    refine own_go (fun t_ k => XS.ladd X2.here hx rfl (hb hby d3_30) rfl k) ?_
    show WP p e below _ (T2.setTop (mkF m 31 #[.val (.int p1), .val (.int p2), .val (.int p3), .val (.int p4), .val (.int p5), .val (.int p6), .val (.int (f2 p1 p4)), .val (.int (f1 p2 p5)), .unset, .unset, .unset, .unset] [(.long (((p2.toInt64) - (p1.toInt64)) + (1 : Int64)))]))
    refine own_go (fun t_ k => XS.lstore X2.here hx rfl (hb hby d3_31) rfl (l' := #[.val (.int p1), .val (.int p2), .val (.int p3), .val (.int p4), .val (.int p5), .val (.int p6), .val (.int (f2 p1 p4)), .val (.int (f1 p2 p5)), .val (.long (((p2.toInt64) - (p1.toInt64)) + (1 : Int64))), .second, .unset, .unset]) rfl k) ?_
    show WP p e below _ (T2.setTop (mkF m 33 #[.val (.int p1), .val (.int p2), .val (.int p3), .val (.int p4), .val (.int p5), .val (.int p6), .val (.int (f2 p1 p4)), .val (.int (f1 p2 p5)), .val (.long (((p2.toInt64) - (p1.toInt64)) + (1 : Int64))), .second, .unset, .unset] []))
    refine own_go (fun t_ k => XS.iload X2.here hx rfl (hb hby d3_33) rfl k) ?_
    show WP p e below _ (T2.setTop (mkF m 35 #[.val (.int p1), .val (.int p2), .val (.int p3), .val (.int p4), .val (.int p5), .val (.int p6), .val (.int (f2 p1 p4)), .val (.int (f1 p2 p5)), .val (.long (((p2.toInt64) - (p1.toInt64)) + (1 : Int64))), .second, .unset, .unset] [(.int p5)]))
    refine own_go (fun t_ k => XS.i2l X2.here hx rfl (hb hby d3_35) rfl k) ?_
    show WP p e below _ (T2.setTop (mkF m 36 #[.val (.int p1), .val (.int p2), .val (.int p3), .val (.int p4), .val (.int p5), .val (.int p6), .val (.int (f2 p1 p4)), .val (.int (f1 p2 p5)), .val (.long (((p2.toInt64) - (p1.toInt64)) + (1 : Int64))), .second, .unset, .unset] [(.long (p5.toInt64))]))
    refine own_go (fun t_ k => XS.iloadN X2.here hx rfl (hb hby d3_36) rfl k) ?_
    show WP p e below _ (T2.setTop (mkF m 37 #[.val (.int p1), .val (.int p2), .val (.int p3), .val (.int p4), .val (.int p5), .val (.int p6), .val (.int (f2 p1 p4)), .val (.int (f1 p2 p5)), .val (.long (((p2.toInt64) - (p1.toInt64)) + (1 : Int64))), .second, .unset, .unset] [(.int p4), (.long (p5.toInt64))]))
    refine own_go (fun t_ k => XS.i2l X2.here hx rfl (hb hby d3_37) rfl k) ?_
    show WP p e below _ (T2.setTop (mkF m 38 #[.val (.int p1), .val (.int p2), .val (.int p3), .val (.int p4), .val (.int p5), .val (.int p6), .val (.int (f2 p1 p4)), .val (.int (f1 p2 p5)), .val (.long (((p2.toInt64) - (p1.toInt64)) + (1 : Int64))), .second, .unset, .unset] [(.long (p4.toInt64)), (.long (p5.toInt64))]))
    refine own_go (fun t_ k => XS.lsub X2.here hx rfl (hb hby d3_38) rfl k) ?_
    show WP p e below _ (T2.setTop (mkF m 39 #[.val (.int p1), .val (.int p2), .val (.int p3), .val (.int p4), .val (.int p5), .val (.int p6), .val (.int (f2 p1 p4)), .val (.int (f1 p2 p5)), .val (.long (((p2.toInt64) - (p1.toInt64)) + (1 : Int64))), .second, .unset, .unset] [(.long ((p5.toInt64) - (p4.toInt64)))]))
    refine own_go (fun t_ k => XS.lconst X2.here hx rfl (hb hby d3_39) k) ?_
    show WP p e below _ (T2.setTop (mkF m 40 #[.val (.int p1), .val (.int p2), .val (.int p3), .val (.int p4), .val (.int p5), .val (.int p6), .val (.int (f2 p1 p4)), .val (.int (f1 p2 p5)), .val (.long (((p2.toInt64) - (p1.toInt64)) + (1 : Int64))), .second, .unset, .unset] [(.long (1 : Int64)), (.long ((p5.toInt64) - (p4.toInt64)))]))
    refine own_go (fun t_ k => XS.ladd X2.here hx rfl (hb hby d3_40) rfl k) ?_
    show WP p e below _ (T2.setTop (mkF m 41 #[.val (.int p1), .val (.int p2), .val (.int p3), .val (.int p4), .val (.int p5), .val (.int p6), .val (.int (f2 p1 p4)), .val (.int (f1 p2 p5)), .val (.long (((p2.toInt64) - (p1.toInt64)) + (1 : Int64))), .second, .unset, .unset] [(.long (((p5.toInt64) - (p4.toInt64)) + (1 : Int64)))]))
    refine own_go (fun t_ k => XS.lstore X2.here hx rfl (hb hby d3_41) rfl (l' := #[.val (.int p1), .val (.int p2), .val (.int p3), .val (.int p4), .val (.int p5), .val (.int p6), .val (.int (f2 p1 p4)), .val (.int (f1 p2 p5)), .val (.long (((p2.toInt64) - (p1.toInt64)) + (1 : Int64))), .second, .val (.long (((p5.toInt64) - (p4.toInt64)) + (1 : Int64))), .second]) rfl k) ?_
    show WP p e below _ (T2.setTop (mkF m 43 #[.val (.int p1), .val (.int p2), .val (.int p3), .val (.int p4), .val (.int p5), .val (.int p6), .val (.int (f2 p1 p4)), .val (.int (f1 p2 p5)), .val (.long (((p2.toInt64) - (p1.toInt64)) + (1 : Int64))), .second, .val (.long (((p5.toInt64) - (p4.toInt64)) + (1 : Int64))), .second] []))
    refine own_go (fun t_ k => X2.ldc2Long hx hown (mvT hZ (hw _ (List.mem_of_getElem? (i := 12) rfl))) (g := (mkF m 43 #[.val (.int p1), .val (.int p2), .val (.int p3), .val (.int p4), .val (.int p5), .val (.int p6), .val (.int (f2 p1 p4)), .val (.int (f1 p2 p5)), .val (.long (((p2.toInt64) - (p1.toInt64)) + (1 : Int64))), .second, .val (.long (((p5.toInt64) - (p4.toInt64)) + (1 : Int64))), .second] [])) rfl (hb hby d3_43) _ k) ?_
    show WP p e below _ (T2.setTop (mkF m 46 #[.val (.int p1), .val (.int p2), .val (.int p3), .val (.int p4), .val (.int p5), .val (.int p6), .val (.int (f2 p1 p4)), .val (.int (f1 p2 p5)), .val (.long (((p2.toInt64) - (p1.toInt64)) + (1 : Int64))), .second, .val (.long (((p5.toInt64) - (p4.toInt64)) + (1 : Int64))), .second] [(.long (32 : Int64))]))
    refine own_go (fun t_ k => XS.iloadN X2.here hx rfl (hb hby d3_46) rfl k) ?_
    show WP p e below _ (T2.setTop (mkF m 47 #[.val (.int p1), .val (.int p2), .val (.int p3), .val (.int p4), .val (.int p5), .val (.int p6), .val (.int (f2 p1 p4)), .val (.int (f1 p2 p5)), .val (.long (((p2.toInt64) - (p1.toInt64)) + (1 : Int64))), .second, .val (.long (((p5.toInt64) - (p4.toInt64)) + (1 : Int64))), .second] [(.int p3), (.long (32 : Int64))]))
    refine own_go (fun t_ k => XS.i2l X2.here hx rfl (hb hby d3_47) rfl k) ?_
    show WP p e below _ (T2.setTop (mkF m 48 #[.val (.int p1), .val (.int p2), .val (.int p3), .val (.int p4), .val (.int p5), .val (.int p6), .val (.int (f2 p1 p4)), .val (.int (f1 p2 p5)), .val (.long (((p2.toInt64) - (p1.toInt64)) + (1 : Int64))), .second, .val (.long (((p5.toInt64) - (p4.toInt64)) + (1 : Int64))), .second] [(.long (p3.toInt64)), (.long (32 : Int64))]))
    refine own_go (fun t_ k => XS.lmul X2.here hx rfl (hb hby d3_48) rfl k) ?_
    show WP p e below _ (T2.setTop (mkF m 49 #[.val (.int p1), .val (.int p2), .val (.int p3), .val (.int p4), .val (.int p5), .val (.int p6), .val (.int (f2 p1 p4)), .val (.int (f1 p2 p5)), .val (.long (((p2.toInt64) - (p1.toInt64)) + (1 : Int64))), .second, .val (.long (((p5.toInt64) - (p4.toInt64)) + (1 : Int64))), .second] [(.long ((32 : Int64) * (p3.toInt64)))]))
    refine own_go (fun t_ k => XS.lload X2.here hx rfl (hb hby d3_49) rfl k) ?_
    show WP p e below _ (T2.setTop (mkF m 51 #[.val (.int p1), .val (.int p2), .val (.int p3), .val (.int p4), .val (.int p5), .val (.int p6), .val (.int (f2 p1 p4)), .val (.int (f1 p2 p5)), .val (.long (((p2.toInt64) - (p1.toInt64)) + (1 : Int64))), .second, .val (.long (((p5.toInt64) - (p4.toInt64)) + (1 : Int64))), .second] [(.long (((p5.toInt64) - (p4.toInt64)) + (1 : Int64))), (.long ((32 : Int64) * (p3.toInt64)))]))
    refine own_go (fun t_ k => XS.lmul X2.here hx rfl (hb hby d3_51) rfl k) ?_
    show WP p e below _ (T2.setTop (mkF m 52 #[.val (.int p1), .val (.int p2), .val (.int p3), .val (.int p4), .val (.int p5), .val (.int p6), .val (.int (f2 p1 p4)), .val (.int (f1 p2 p5)), .val (.long (((p2.toInt64) - (p1.toInt64)) + (1 : Int64))), .second, .val (.long (((p5.toInt64) - (p4.toInt64)) + (1 : Int64))), .second] [(.long (((32 : Int64) * (p3.toInt64)) * (((p5.toInt64) - (p4.toInt64)) + (1 : Int64))))]))
    refine own_go (fun t_ k => XS.iload X2.here hx rfl (hb hby d3_52) rfl k) ?_
    show WP p e below _ (T2.setTop (mkF m 54 #[.val (.int p1), .val (.int p2), .val (.int p3), .val (.int p4), .val (.int p5), .val (.int p6), .val (.int (f2 p1 p4)), .val (.int (f1 p2 p5)), .val (.long (((p2.toInt64) - (p1.toInt64)) + (1 : Int64))), .second, .val (.long (((p5.toInt64) - (p4.toInt64)) + (1 : Int64))), .second] [(.int p6), (.long (((32 : Int64) * (p3.toInt64)) * (((p5.toInt64) - (p4.toInt64)) + (1 : Int64))))]))
    refine own_go (fun t_ k => XS.i2l X2.here hx rfl (hb hby d3_54) rfl k) ?_
    show WP p e below _ (T2.setTop (mkF m 55 #[.val (.int p1), .val (.int p2), .val (.int p3), .val (.int p4), .val (.int p5), .val (.int p6), .val (.int (f2 p1 p4)), .val (.int (f1 p2 p5)), .val (.long (((p2.toInt64) - (p1.toInt64)) + (1 : Int64))), .second, .val (.long (((p5.toInt64) - (p4.toInt64)) + (1 : Int64))), .second] [(.long (p6.toInt64)), (.long (((32 : Int64) * (p3.toInt64)) * (((p5.toInt64) - (p4.toInt64)) + (1 : Int64))))]))
    refine own_go (fun t_ k => XS.lload X2.here hx rfl (hb hby d3_55) rfl k) ?_
    show WP p e below _ (T2.setTop (mkF m 57 #[.val (.int p1), .val (.int p2), .val (.int p3), .val (.int p4), .val (.int p5), .val (.int p6), .val (.int (f2 p1 p4)), .val (.int (f1 p2 p5)), .val (.long (((p2.toInt64) - (p1.toInt64)) + (1 : Int64))), .second, .val (.long (((p5.toInt64) - (p4.toInt64)) + (1 : Int64))), .second] [(.long (((p2.toInt64) - (p1.toInt64)) + (1 : Int64))), (.long (p6.toInt64)), (.long (((32 : Int64) * (p3.toInt64)) * (((p5.toInt64) - (p4.toInt64)) + (1 : Int64))))]))
    refine own_go (fun t_ k => XS.lmul X2.here hx rfl (hb hby d3_57) rfl k) ?_
    show WP p e below _ (T2.setTop (mkF m 58 #[.val (.int p1), .val (.int p2), .val (.int p3), .val (.int p4), .val (.int p5), .val (.int p6), .val (.int (f2 p1 p4)), .val (.int (f1 p2 p5)), .val (.long (((p2.toInt64) - (p1.toInt64)) + (1 : Int64))), .second, .val (.long (((p5.toInt64) - (p4.toInt64)) + (1 : Int64))), .second] [(.long ((p6.toInt64) * (((p2.toInt64) - (p1.toInt64)) + (1 : Int64)))), (.long (((32 : Int64) * (p3.toInt64)) * (((p5.toInt64) - (p4.toInt64)) + (1 : Int64))))]))
    refine own_go (fun t_ k => XS.lcmp X2.here hx rfl (hb hby d3_58) rfl k) ?_
    show WP p e below _ (T2.setTop (mkF m 59 #[.val (.int p1), .val (.int p2), .val (.int p3), .val (.int p4), .val (.int p5), .val (.int p6), .val (.int (f2 p1 p4)), .val (.int (f1 p2 p5)), .val (.long (((p2.toInt64) - (p1.toInt64)) + (1 : Int64))), .second, .val (.long (((p5.toInt64) - (p4.toInt64)) + (1 : Int64))), .second] [(.int (lcmpW (((32 : Int64) * (p3.toInt64)) * (((p5.toInt64) - (p4.toInt64)) + (1 : Int64))) ((p6.toInt64) * (((p2.toInt64) - (p1.toInt64)) + (1 : Int64)))))]))
    by_cases hc59_4 : (((32 : Int64) * (p3.toInt64)) * (((p5.toInt64) - (p4.toInt64)) + (1 : Int64))) < ((p6.toInt64) * (((p2.toInt64) - (p1.toInt64)) + (1 : Int64)))
    · refine own_go (fun t_ k => XS.ifNo X2.here hx rfl (hb hby d3_59) rfl ((if0 _ _).trans (tlt ((lw_lt _ _).mpr hc59_4)).2.1) k) ?_
      show WP p e below _ (T2.setTop (mkF m 62 #[.val (.int p1), .val (.int p2), .val (.int p3), .val (.int p4), .val (.int p5), .val (.int p6), .val (.int (f2 p1 p4)), .val (.int (f1 p2 p5)), .val (.long (((p2.toInt64) - (p1.toInt64)) + (1 : Int64))), .second, .val (.long (((p5.toInt64) - (p4.toInt64)) + (1 : Int64))), .second] []))
      refine own_go (fun t_ k => XS.iconst X2.here hx rfl (hb hby d3_62) k) ?_
      show WP p e below _ (T2.setTop (mkF m 63 #[.val (.int p1), .val (.int p2), .val (.int p3), .val (.int p4), .val (.int p5), .val (.int p6), .val (.int (f2 p1 p4)), .val (.int (f1 p2 p5)), .val (.long (((p2.toInt64) - (p1.toInt64)) + (1 : Int64))), .second, .val (.long (((p5.toInt64) - (p4.toInt64)) + (1 : Int64))), .second] [(.int (1 : Int32))]))
      exact own_retI X2 hx Bd.notSynchronized Bd.returns (hb hby d3_63) (show PQ h0 n0 (.int (f3 p1 p2 p3 p4 p5 p6)) _ _ _ from ⟨by rw [f3, if_neg hc19_3, if_pos hc59_4], N2, e2⟩) (by decide) (by decide)
    · refine own_go (fun t_ k => XS.ifYes X2.here hx rfl (pc0 := 59) (pc' := 64) rfl (hb hby d3_59) rfl ((if0 _ _).trans (flt (mt (lw_lt _ _).mp hc59_4)).2.1) (by decide) (by decide) k) ?_
      show WP p e below _ (T2.setTop (mkF m 64 #[.val (.int p1), .val (.int p2), .val (.int p3), .val (.int p4), .val (.int p5), .val (.int p6), .val (.int (f2 p1 p4)), .val (.int (f1 p2 p5)), .val (.long (((p2.toInt64) - (p1.toInt64)) + (1 : Int64))), .second, .val (.long (((p5.toInt64) - (p4.toInt64)) + (1 : Int64))), .second] []))
      refine own_go (fun t_ k => X2.ldc2Long hx hown (mvT hZ (hw _ (List.mem_of_getElem? (i := 12) rfl))) (g := (mkF m 64 #[.val (.int p1), .val (.int p2), .val (.int p3), .val (.int p4), .val (.int p5), .val (.int p6), .val (.int (f2 p1 p4)), .val (.int (f1 p2 p5)), .val (.long (((p2.toInt64) - (p1.toInt64)) + (1 : Int64))), .second, .val (.long (((p5.toInt64) - (p4.toInt64)) + (1 : Int64))), .second] [])) rfl (hb hby d3_64) _ k) ?_
      show WP p e below _ (T2.setTop (mkF m 67 #[.val (.int p1), .val (.int p2), .val (.int p3), .val (.int p4), .val (.int p5), .val (.int p6), .val (.int (f2 p1 p4)), .val (.int (f1 p2 p5)), .val (.long (((p2.toInt64) - (p1.toInt64)) + (1 : Int64))), .second, .val (.long (((p5.toInt64) - (p4.toInt64)) + (1 : Int64))), .second] [(.long (32 : Int64))]))
      refine own_go (fun t_ k => XS.iload X2.here hx rfl (hb hby d3_67) rfl k) ?_
      show WP p e below _ (T2.setTop (mkF m 69 #[.val (.int p1), .val (.int p2), .val (.int p3), .val (.int p4), .val (.int p5), .val (.int p6), .val (.int (f2 p1 p4)), .val (.int (f1 p2 p5)), .val (.long (((p2.toInt64) - (p1.toInt64)) + (1 : Int64))), .second, .val (.long (((p5.toInt64) - (p4.toInt64)) + (1 : Int64))), .second] [(.int p6), (.long (32 : Int64))]))
      refine own_go (fun t_ k => XS.i2l X2.here hx rfl (hb hby d3_69) rfl k) ?_
      show WP p e below _ (T2.setTop (mkF m 70 #[.val (.int p1), .val (.int p2), .val (.int p3), .val (.int p4), .val (.int p5), .val (.int p6), .val (.int (f2 p1 p4)), .val (.int (f1 p2 p5)), .val (.long (((p2.toInt64) - (p1.toInt64)) + (1 : Int64))), .second, .val (.long (((p5.toInt64) - (p4.toInt64)) + (1 : Int64))), .second] [(.long (p6.toInt64)), (.long (32 : Int64))]))
      refine own_go (fun t_ k => XS.lmul X2.here hx rfl (hb hby d3_70) rfl k) ?_
      show WP p e below _ (T2.setTop (mkF m 71 #[.val (.int p1), .val (.int p2), .val (.int p3), .val (.int p4), .val (.int p5), .val (.int p6), .val (.int (f2 p1 p4)), .val (.int (f1 p2 p5)), .val (.long (((p2.toInt64) - (p1.toInt64)) + (1 : Int64))), .second, .val (.long (((p5.toInt64) - (p4.toInt64)) + (1 : Int64))), .second] [(.long ((32 : Int64) * (p6.toInt64)))]))
      refine own_go (fun t_ k => XS.lload X2.here hx rfl (hb hby d3_71) rfl k) ?_
      show WP p e below _ (T2.setTop (mkF m 73 #[.val (.int p1), .val (.int p2), .val (.int p3), .val (.int p4), .val (.int p5), .val (.int p6), .val (.int (f2 p1 p4)), .val (.int (f1 p2 p5)), .val (.long (((p2.toInt64) - (p1.toInt64)) + (1 : Int64))), .second, .val (.long (((p5.toInt64) - (p4.toInt64)) + (1 : Int64))), .second] [(.long (((p2.toInt64) - (p1.toInt64)) + (1 : Int64))), (.long ((32 : Int64) * (p6.toInt64)))]))
      refine own_go (fun t_ k => XS.lmul X2.here hx rfl (hb hby d3_73) rfl k) ?_
      show WP p e below _ (T2.setTop (mkF m 74 #[.val (.int p1), .val (.int p2), .val (.int p3), .val (.int p4), .val (.int p5), .val (.int p6), .val (.int (f2 p1 p4)), .val (.int (f1 p2 p5)), .val (.long (((p2.toInt64) - (p1.toInt64)) + (1 : Int64))), .second, .val (.long (((p5.toInt64) - (p4.toInt64)) + (1 : Int64))), .second] [(.long (((32 : Int64) * (p6.toInt64)) * (((p2.toInt64) - (p1.toInt64)) + (1 : Int64))))]))
      refine own_go (fun t_ k => XS.iloadN X2.here hx rfl (hb hby d3_74) rfl k) ?_
      show WP p e below _ (T2.setTop (mkF m 75 #[.val (.int p1), .val (.int p2), .val (.int p3), .val (.int p4), .val (.int p5), .val (.int p6), .val (.int (f2 p1 p4)), .val (.int (f1 p2 p5)), .val (.long (((p2.toInt64) - (p1.toInt64)) + (1 : Int64))), .second, .val (.long (((p5.toInt64) - (p4.toInt64)) + (1 : Int64))), .second] [(.int p3), (.long (((32 : Int64) * (p6.toInt64)) * (((p2.toInt64) - (p1.toInt64)) + (1 : Int64))))]))
      refine own_go (fun t_ k => XS.i2l X2.here hx rfl (hb hby d3_75) rfl k) ?_
      show WP p e below _ (T2.setTop (mkF m 76 #[.val (.int p1), .val (.int p2), .val (.int p3), .val (.int p4), .val (.int p5), .val (.int p6), .val (.int (f2 p1 p4)), .val (.int (f1 p2 p5)), .val (.long (((p2.toInt64) - (p1.toInt64)) + (1 : Int64))), .second, .val (.long (((p5.toInt64) - (p4.toInt64)) + (1 : Int64))), .second] [(.long (p3.toInt64)), (.long (((32 : Int64) * (p6.toInt64)) * (((p2.toInt64) - (p1.toInt64)) + (1 : Int64))))]))
      refine own_go (fun t_ k => XS.lload X2.here hx rfl (hb hby d3_76) rfl k) ?_
      show WP p e below _ (T2.setTop (mkF m 78 #[.val (.int p1), .val (.int p2), .val (.int p3), .val (.int p4), .val (.int p5), .val (.int p6), .val (.int (f2 p1 p4)), .val (.int (f1 p2 p5)), .val (.long (((p2.toInt64) - (p1.toInt64)) + (1 : Int64))), .second, .val (.long (((p5.toInt64) - (p4.toInt64)) + (1 : Int64))), .second] [(.long (((p5.toInt64) - (p4.toInt64)) + (1 : Int64))), (.long (p3.toInt64)), (.long (((32 : Int64) * (p6.toInt64)) * (((p2.toInt64) - (p1.toInt64)) + (1 : Int64))))]))
      refine own_go (fun t_ k => XS.lmul X2.here hx rfl (hb hby d3_78) rfl k) ?_
      show WP p e below _ (T2.setTop (mkF m 79 #[.val (.int p1), .val (.int p2), .val (.int p3), .val (.int p4), .val (.int p5), .val (.int p6), .val (.int (f2 p1 p4)), .val (.int (f1 p2 p5)), .val (.long (((p2.toInt64) - (p1.toInt64)) + (1 : Int64))), .second, .val (.long (((p5.toInt64) - (p4.toInt64)) + (1 : Int64))), .second] [(.long ((p3.toInt64) * (((p5.toInt64) - (p4.toInt64)) + (1 : Int64)))), (.long (((32 : Int64) * (p6.toInt64)) * (((p2.toInt64) - (p1.toInt64)) + (1 : Int64))))]))
      refine own_go (fun t_ k => XS.lcmp X2.here hx rfl (hb hby d3_79) rfl k) ?_
      show WP p e below _ (T2.setTop (mkF m 80 #[.val (.int p1), .val (.int p2), .val (.int p3), .val (.int p4), .val (.int p5), .val (.int p6), .val (.int (f2 p1 p4)), .val (.int (f1 p2 p5)), .val (.long (((p2.toInt64) - (p1.toInt64)) + (1 : Int64))), .second, .val (.long (((p5.toInt64) - (p4.toInt64)) + (1 : Int64))), .second] [(.int (lcmpW (((32 : Int64) * (p6.toInt64)) * (((p2.toInt64) - (p1.toInt64)) + (1 : Int64))) ((p3.toInt64) * (((p5.toInt64) - (p4.toInt64)) + (1 : Int64)))))]))
      by_cases hc80_5 : (((32 : Int64) * (p6.toInt64)) * (((p2.toInt64) - (p1.toInt64)) + (1 : Int64))) < ((p3.toInt64) * (((p5.toInt64) - (p4.toInt64)) + (1 : Int64)))
      · refine own_go (fun t_ k => XS.ifNo X2.here hx rfl (hb hby d3_80) rfl ((if0 _ _).trans (tlt ((lw_lt _ _).mpr hc80_5)).2.1) k) ?_
        show WP p e below _ (T2.setTop (mkF m 83 #[.val (.int p1), .val (.int p2), .val (.int p3), .val (.int p4), .val (.int p5), .val (.int p6), .val (.int (f2 p1 p4)), .val (.int (f1 p2 p5)), .val (.long (((p2.toInt64) - (p1.toInt64)) + (1 : Int64))), .second, .val (.long (((p5.toInt64) - (p4.toInt64)) + (1 : Int64))), .second] []))
        refine own_go (fun t_ k => XS.iconst X2.here hx rfl (hb hby d3_83) k) ?_
        show WP p e below _ (T2.setTop (mkF m 84 #[.val (.int p1), .val (.int p2), .val (.int p3), .val (.int p4), .val (.int p5), .val (.int p6), .val (.int (f2 p1 p4)), .val (.int (f1 p2 p5)), .val (.long (((p2.toInt64) - (p1.toInt64)) + (1 : Int64))), .second, .val (.long (((p5.toInt64) - (p4.toInt64)) + (1 : Int64))), .second] [(.int (2 : Int32))]))
        exact own_retI X2 hx Bd.notSynchronized Bd.returns (hb hby d3_84) (show PQ h0 n0 (.int (f3 p1 p2 p3 p4 p5 p6)) _ _ _ from ⟨by rw [f3, if_neg hc19_3, if_neg hc59_4, if_pos hc80_5], N2, e2⟩) (by decide) (by decide)
      · refine own_go (fun t_ k => XS.ifYes X2.here hx rfl (pc0 := 80) (pc' := 85) rfl (hb hby d3_80) rfl ((if0 _ _).trans (flt (mt (lw_lt _ _).mp hc80_5)).2.1) (by decide) (by decide) k) ?_
        show WP p e below _ (T2.setTop (mkF m 85 #[.val (.int p1), .val (.int p2), .val (.int p3), .val (.int p4), .val (.int p5), .val (.int p6), .val (.int (f2 p1 p4)), .val (.int (f1 p2 p5)), .val (.long (((p2.toInt64) - (p1.toInt64)) + (1 : Int64))), .second, .val (.long (((p5.toInt64) - (p4.toInt64)) + (1 : Int64))), .second] []))
        refine own_go (fun t_ k => XS.iconst X2.here hx rfl (hb hby d3_85) k) ?_
        show WP p e below _ (T2.setTop (mkF m 86 #[.val (.int p1), .val (.int p2), .val (.int p3), .val (.int p4), .val (.int p5), .val (.int p6), .val (.int (f2 p1 p4)), .val (.int (f1 p2 p5)), .val (.long (((p2.toInt64) - (p1.toInt64)) + (1 : Int64))), .second, .val (.long (((p5.toInt64) - (p4.toInt64)) + (1 : Int64))), .second] [(.int (3 : Int32))]))
        exact own_retI X2 hx Bd.notSynchronized Bd.returns (hb hby d3_86) (show PQ h0 n0 (.int (f3 p1 p2 p3 p4 p5 p6)) _ _ _ from ⟨by rw [f3, if_neg hc19_3, if_neg hc59_4, if_neg hc80_5], N2, e2⟩) (by decide) (by decide)
def f4 (p1 : Int32) (p2 : Int32) (p3 : Int32) (p4 : Int32) (p5 : Int32) (p6 : Int32) : Int32 := (if p2 < p4 then (0 : Int32) else (if p5 < p1 then (0 : Int32) else (if (((p3.toInt64) * (((p5 - p4) + (1 : Int32)).toInt64)) * (32 : Int64)) < ((p6.toInt64) * (((p2 - p1) + (1 : Int32)).toInt64)) then (1 : Int32) else (if (((p6.toInt64) * (((p2 - p1) + (1 : Int32)).toInt64)) * (32 : Int64)) < ((p3.toInt64) * (((p5 - p4) + (1 : Int32)).toInt64)) then (2 : Int32) else (3 : Int32)))))
theorem d4_0 : decode prog_4_method_3_code 0 = .ok (.iload_n 1, 1) := by decide +kernel
theorem d4_1 : decode prog_4_method_3_code 1 = .ok (.iload_n 3, 1) := by decide +kernel
theorem d4_2 : decode prog_4_method_3_code 2 = .ok (.if_icmp .lt 9, 3) := by decide +kernel
theorem d4_5 : decode prog_4_method_3_code 5 = .ok (.iload 4, 2) := by decide +kernel
theorem d4_7 : decode prog_4_method_3_code 7 = .ok (.iload_n 0, 1) := by decide +kernel
theorem d4_8 : decode prog_4_method_3_code 8 = .ok (.if_icmp .ge 5, 3) := by decide +kernel
theorem d4_11 : decode prog_4_method_3_code 11 = .ok (.iconst 0, 1) := by decide +kernel
theorem d4_12 : decode prog_4_method_3_code 12 = .ok (.ireturn, 1) := by decide +kernel
theorem d4_13 : decode prog_4_method_3_code 13 = .ok (.iload_n 2, 1) := by decide +kernel
theorem d4_14 : decode prog_4_method_3_code 14 = .ok (.i2l, 1) := by decide +kernel
theorem d4_15 : decode prog_4_method_3_code 15 = .ok (.iload 4, 2) := by decide +kernel
theorem d4_17 : decode prog_4_method_3_code 17 = .ok (.iload_n 3, 1) := by decide +kernel
theorem d4_18 : decode prog_4_method_3_code 18 = .ok (.isub, 1) := by decide +kernel
theorem d4_19 : decode prog_4_method_3_code 19 = .ok (.iconst 1, 1) := by decide +kernel
theorem d4_20 : decode prog_4_method_3_code 20 = .ok (.iadd, 1) := by decide +kernel
theorem d4_21 : decode prog_4_method_3_code 21 = .ok (.i2l, 1) := by decide +kernel
theorem d4_22 : decode prog_4_method_3_code 22 = .ok (.lmul, 1) := by decide +kernel
theorem d4_23 : decode prog_4_method_3_code 23 = .ok (.lstore 6, 2) := by decide +kernel
theorem d4_25 : decode prog_4_method_3_code 25 = .ok (.iload 5, 2) := by decide +kernel
theorem d4_27 : decode prog_4_method_3_code 27 = .ok (.i2l, 1) := by decide +kernel
theorem d4_28 : decode prog_4_method_3_code 28 = .ok (.iload_n 1, 1) := by decide +kernel
theorem d4_29 : decode prog_4_method_3_code 29 = .ok (.iload_n 0, 1) := by decide +kernel
theorem d4_30 : decode prog_4_method_3_code 30 = .ok (.isub, 1) := by decide +kernel
theorem d4_31 : decode prog_4_method_3_code 31 = .ok (.iconst 1, 1) := by decide +kernel
theorem d4_32 : decode prog_4_method_3_code 32 = .ok (.iadd, 1) := by decide +kernel
theorem d4_33 : decode prog_4_method_3_code 33 = .ok (.i2l, 1) := by decide +kernel
theorem d4_34 : decode prog_4_method_3_code 34 = .ok (.lmul, 1) := by decide +kernel
theorem d4_35 : decode prog_4_method_3_code 35 = .ok (.lstore 8, 2) := by decide +kernel
theorem d4_37 : decode prog_4_method_3_code 37 = .ok (.lload 6, 2) := by decide +kernel
theorem d4_39 : decode prog_4_method_3_code 39 = .ok (.ldc2_w 13, 3) := by decide +kernel
theorem d4_42 : decode prog_4_method_3_code 42 = .ok (.lmul, 1) := by decide +kernel
theorem d4_43 : decode prog_4_method_3_code 43 = .ok (.lload 8, 2) := by decide +kernel
theorem d4_45 : decode prog_4_method_3_code 45 = .ok (.lcmp, 1) := by decide +kernel
theorem d4_46 : decode prog_4_method_3_code 46 = .ok (.ifCond .ge 5, 3) := by decide +kernel
theorem d4_49 : decode prog_4_method_3_code 49 = .ok (.iconst 1, 1) := by decide +kernel
theorem d4_50 : decode prog_4_method_3_code 50 = .ok (.ireturn, 1) := by decide +kernel
theorem d4_51 : decode prog_4_method_3_code 51 = .ok (.lload 8, 2) := by decide +kernel
theorem d4_53 : decode prog_4_method_3_code 53 = .ok (.ldc2_w 13, 3) := by decide +kernel
theorem d4_56 : decode prog_4_method_3_code 56 = .ok (.lmul, 1) := by decide +kernel
theorem d4_57 : decode prog_4_method_3_code 57 = .ok (.lload 6, 2) := by decide +kernel
theorem d4_59 : decode prog_4_method_3_code 59 = .ok (.lcmp, 1) := by decide +kernel
theorem d4_60 : decode prog_4_method_3_code 60 = .ok (.ifCond .ge 5, 3) := by decide +kernel
theorem d4_63 : decode prog_4_method_3_code 63 = .ok (.iconst 2, 1) := by decide +kernel
theorem d4_64 : decode prog_4_method_3_code 64 = .ok (.ireturn, 1) := by decide +kernel
theorem d4_65 : decode prog_4_method_3_code 65 = .ok (.iconst 3, 1) := by decide +kernel
theorem d4_66 : decode prog_4_method_3_code 66 = .ok (.ireturn, 1) := by decide +kernel
theorem pn_1 : plainName "com/example/cairn/cairn/ArrayMeeting" = true := by first | (simp [plainName, overriddenIn]; done) | decide +kernel
theorem ef_rm4 (m : MethodId) (x0 : Int32) (x1 : Int32) (x2 : Int32) (x3 : Int32) (x4 : Int32) (x5 : Int32) : entryFrame m #[(.int x0), (.int x1), (.int x2), (.int x3), (.int x4), (.int x5)] 10 = mkF m 0 #[.val (.int x0), .val (.int x1), .val (.int x2), .val (.int x3), .val (.int x4), .val (.int x5), .unset, .unset, .unset, .unset] [] := by first | (simp [entryFrame, mkF, argsToLocals, Value.category]; done) | rfl
set_option maxRecDepth 65536 in
set_option maxHeartbeats 40000000 in
theorem rm4 (l : Launch) (Z : State) (a0 : Array Value) (hw : ∀ d ∈ tables_1, d.before a0 Z = true) (ws : List Jvm.Cond) (p1 : Int32) (p2 : Int32) (p3 : Int32) (p4 : Int32) (p5 : Int32) (p6 : Int32) (h0 : Heap) (n0 : Nat) :
    MetFree l (⟨"com/example/cairn/cairn/ArrayMeeting", "way", "(CCICCI)I"⟩ : MethodName) (head1 (Jvm.Cond.code (⟨"com/example/cairn/cairn/ArrayMeeting", "way", "(CCICCI)I"⟩ : MethodName) prog_4_method_3_code 10 (some .int) :: ws) ({ frames := 0, cells := 0, slots := 0, locals := 0 } : Room)) (fun a U => a = #[(.int p1), (.int p2), (.int p3), (.int p4), (.int p5), (.int p6)] ∧ Z.Warmed39 U.vm ∧ U.heap = h0) (fun _ _ _ _ _ => True) (fun _ U o U' => ∃ v L, o = .returned v ∧ (PQ h0 n0 (.int (f4 p1 p2 p3 p4 p5 p6))) v U'.heap L ∧ FrameEnd U o U' L ({ frames := 0, cells := 0, slots := 0, locals := 0 } : Room).cells ({ frames := 0, cells := 0, slots := 0, locals := 0 } : Room).slots) := by
  refine MetFree.of_bodySF (plainFor_of_name pn_1) hisR ?_
  intro p e s m args below meth c s₁ Bd hml0 hP hK
  obtain ⟨rfl, hZ, hh⟩ := hP
  have hx := Bd.exec
  have hby := Bd.bytes
  have hml : c.maxLocals = 10 := hml0
  have hown : s.vm.findClass "com/example/cairn/cairn/ArrayMeeting" = some m.cls := findClass_of_methodNamed Bd.named
  have hnm := (name_of_methodNamed Bd.named Bd.method).1
  have X0 : Stand p l e ({ frames := 0, cells := 0, slots := 0, locals := 0 } : Room) s m #[(.int p1), (.int p2), (.int p3), (.int p4), (.int p5), (.int p6)] below meth c s₁ [] 0 0 := Stand.of_body Bd
  have e0 : s₁.heap = h0 := by rw [← hh, Bd.state]; rfl
  have N0 := Fr.nil n0
  show WP p e below (GG (PQ h0 n0 (.int (f4 p1 p2 p3 p4 p5 p6))) s ({ frames := 0, cells := 0, slots := 0, locals := 0 } : Room).cells ({ frames := 0, cells := 0, slots := 0, locals := 0 } : Room).slots) (s₁.setTop (entryFrame m #[(.int p1), (.int p2), (.int p3), (.int p4), (.int p5), (.int p6)] 10))
  rw [ef_rm4 m p1 p2 p3 p4 p5 p6]
  show WP p e below _ (s₁.setTop (mkF m 0 #[.val (.int p1), .val (.int p2), .val (.int p3), .val (.int p4), .val (.int p5), .val (.int p6), .unset, .unset, .unset, .unset] []))
  refine own_go (fun t_ k => XS.iloadN X0.here hx rfl (hb hby d4_0) rfl k) ?_
  show WP p e below _ (s₁.setTop (mkF m 1 #[.val (.int p1), .val (.int p2), .val (.int p3), .val (.int p4), .val (.int p5), .val (.int p6), .unset, .unset, .unset, .unset] [(.int p2)]))
  refine own_go (fun t_ k => XS.iloadN X0.here hx rfl (hb hby d4_1) rfl k) ?_
  show WP p e below _ (s₁.setTop (mkF m 2 #[.val (.int p1), .val (.int p2), .val (.int p3), .val (.int p4), .val (.int p5), .val (.int p6), .unset, .unset, .unset, .unset] [(.int p4), (.int p2)]))
  by_cases hc2_1 : p2 < p4
  · refine own_go (fun t_ k => XS.icmpYes X0.here hx rfl (pc0 := 2) (pc' := 11) rfl (hb hby d4_2) rfl (tlt hc2_1).1 (by decide) (by decide) k) ?_
    show WP p e below _ (s₁.setTop (mkF m 11 #[.val (.int p1), .val (.int p2), .val (.int p3), .val (.int p4), .val (.int p5), .val (.int p6), .unset, .unset, .unset, .unset] []))
    refine own_go (fun t_ k => XS.iconst X0.here hx rfl (hb hby d4_11) k) ?_
    show WP p e below _ (s₁.setTop (mkF m 12 #[.val (.int p1), .val (.int p2), .val (.int p3), .val (.int p4), .val (.int p5), .val (.int p6), .unset, .unset, .unset, .unset] [(.int (0 : Int32))]))
    exact own_retI X0 hx Bd.notSynchronized Bd.returns (hb hby d4_12) (show PQ h0 n0 (.int (f4 p1 p2 p3 p4 p5 p6)) _ _ _ from ⟨by rw [f4, if_pos hc2_1], N0, e0⟩) (by decide) (by decide)
  · refine own_go (fun t_ k => XS.icmpNo X0.here hx rfl (hb hby d4_2) rfl (flt hc2_1).1 k) ?_
    show WP p e below _ (s₁.setTop (mkF m 5 #[.val (.int p1), .val (.int p2), .val (.int p3), .val (.int p4), .val (.int p5), .val (.int p6), .unset, .unset, .unset, .unset] []))
    refine own_go (fun t_ k => XS.iload X0.here hx rfl (hb hby d4_5) rfl k) ?_
    show WP p e below _ (s₁.setTop (mkF m 7 #[.val (.int p1), .val (.int p2), .val (.int p3), .val (.int p4), .val (.int p5), .val (.int p6), .unset, .unset, .unset, .unset] [(.int p5)]))
    refine own_go (fun t_ k => XS.iloadN X0.here hx rfl (hb hby d4_7) rfl k) ?_
    show WP p e below _ (s₁.setTop (mkF m 8 #[.val (.int p1), .val (.int p2), .val (.int p3), .val (.int p4), .val (.int p5), .val (.int p6), .unset, .unset, .unset, .unset] [(.int p1), (.int p5)]))
    by_cases hc8_2 : p5 < p1
    · refine own_go (fun t_ k => XS.icmpNo X0.here hx rfl (hb hby d4_8) rfl (tlt hc8_2).2.1 k) ?_
      show WP p e below _ (s₁.setTop (mkF m 11 #[.val (.int p1), .val (.int p2), .val (.int p3), .val (.int p4), .val (.int p5), .val (.int p6), .unset, .unset, .unset, .unset] []))
      refine own_go (fun t_ k => XS.iconst X0.here hx rfl (hb hby d4_11) k) ?_
      show WP p e below _ (s₁.setTop (mkF m 12 #[.val (.int p1), .val (.int p2), .val (.int p3), .val (.int p4), .val (.int p5), .val (.int p6), .unset, .unset, .unset, .unset] [(.int (0 : Int32))]))
      exact own_retI X0 hx Bd.notSynchronized Bd.returns (hb hby d4_12) (show PQ h0 n0 (.int (f4 p1 p2 p3 p4 p5 p6)) _ _ _ from ⟨by rw [f4, if_neg hc2_1, if_pos hc8_2], N0, e0⟩) (by decide) (by decide)
    · refine own_go (fun t_ k => XS.icmpYes X0.here hx rfl (pc0 := 8) (pc' := 13) rfl (hb hby d4_8) rfl (flt hc8_2).2.1 (by decide) (by decide) k) ?_
      show WP p e below _ (s₁.setTop (mkF m 13 #[.val (.int p1), .val (.int p2), .val (.int p3), .val (.int p4), .val (.int p5), .val (.int p6), .unset, .unset, .unset, .unset] []))
      refine own_go (fun t_ k => XS.iloadN X0.here hx rfl (hb hby d4_13) rfl k) ?_
      show WP p e below _ (s₁.setTop (mkF m 14 #[.val (.int p1), .val (.int p2), .val (.int p3), .val (.int p4), .val (.int p5), .val (.int p6), .unset, .unset, .unset, .unset] [(.int p3)]))
      refine own_go (fun t_ k => XS.i2l X0.here hx rfl (hb hby d4_14) rfl k) ?_
      show WP p e below _ (s₁.setTop (mkF m 15 #[.val (.int p1), .val (.int p2), .val (.int p3), .val (.int p4), .val (.int p5), .val (.int p6), .unset, .unset, .unset, .unset] [(.long (p3.toInt64))]))
      refine own_go (fun t_ k => XS.iload X0.here hx rfl (hb hby d4_15) rfl k) ?_
      show WP p e below _ (s₁.setTop (mkF m 17 #[.val (.int p1), .val (.int p2), .val (.int p3), .val (.int p4), .val (.int p5), .val (.int p6), .unset, .unset, .unset, .unset] [(.int p5), (.long (p3.toInt64))]))
      refine own_go (fun t_ k => XS.iloadN X0.here hx rfl (hb hby d4_17) rfl k) ?_
      show WP p e below _ (s₁.setTop (mkF m 18 #[.val (.int p1), .val (.int p2), .val (.int p3), .val (.int p4), .val (.int p5), .val (.int p6), .unset, .unset, .unset, .unset] [(.int p4), (.int p5), (.long (p3.toInt64))]))
      refine own_go (fun t_ k => XS.isub X0.here hx rfl (hb hby d4_18) rfl k) ?_
      show WP p e below _ (s₁.setTop (mkF m 19 #[.val (.int p1), .val (.int p2), .val (.int p3), .val (.int p4), .val (.int p5), .val (.int p6), .unset, .unset, .unset, .unset] [(.int (p5 - p4)), (.long (p3.toInt64))]))
      refine own_go (fun t_ k => XS.iconst X0.here hx rfl (hb hby d4_19) k) ?_
      show WP p e below _ (s₁.setTop (mkF m 20 #[.val (.int p1), .val (.int p2), .val (.int p3), .val (.int p4), .val (.int p5), .val (.int p6), .unset, .unset, .unset, .unset] [(.int (1 : Int32)), (.int (p5 - p4)), (.long (p3.toInt64))]))
      refine own_go (fun t_ k => XS.iadd X0.here hx rfl (hb hby d4_20) rfl k) ?_
      show WP p e below _ (s₁.setTop (mkF m 21 #[.val (.int p1), .val (.int p2), .val (.int p3), .val (.int p4), .val (.int p5), .val (.int p6), .unset, .unset, .unset, .unset] [(.int ((p5 - p4) + (1 : Int32))), (.long (p3.toInt64))]))
      refine own_go (fun t_ k => XS.i2l X0.here hx rfl (hb hby d4_21) rfl k) ?_
      show WP p e below _ (s₁.setTop (mkF m 22 #[.val (.int p1), .val (.int p2), .val (.int p3), .val (.int p4), .val (.int p5), .val (.int p6), .unset, .unset, .unset, .unset] [(.long (((p5 - p4) + (1 : Int32)).toInt64)), (.long (p3.toInt64))]))
      refine own_go (fun t_ k => XS.lmul X0.here hx rfl (hb hby d4_22) rfl k) ?_
      show WP p e below _ (s₁.setTop (mkF m 23 #[.val (.int p1), .val (.int p2), .val (.int p3), .val (.int p4), .val (.int p5), .val (.int p6), .unset, .unset, .unset, .unset] [(.long ((p3.toInt64) * (((p5 - p4) + (1 : Int32)).toInt64)))]))
      refine own_go (fun t_ k => XS.lstore X0.here hx rfl (hb hby d4_23) rfl (l' := #[.val (.int p1), .val (.int p2), .val (.int p3), .val (.int p4), .val (.int p5), .val (.int p6), .val (.long ((p3.toInt64) * (((p5 - p4) + (1 : Int32)).toInt64))), .second, .unset, .unset]) rfl k) ?_
      show WP p e below _ (s₁.setTop (mkF m 25 #[.val (.int p1), .val (.int p2), .val (.int p3), .val (.int p4), .val (.int p5), .val (.int p6), .val (.long ((p3.toInt64) * (((p5 - p4) + (1 : Int32)).toInt64))), .second, .unset, .unset] []))
      refine own_go (fun t_ k => XS.iload X0.here hx rfl (hb hby d4_25) rfl k) ?_
      show WP p e below _ (s₁.setTop (mkF m 27 #[.val (.int p1), .val (.int p2), .val (.int p3), .val (.int p4), .val (.int p5), .val (.int p6), .val (.long ((p3.toInt64) * (((p5 - p4) + (1 : Int32)).toInt64))), .second, .unset, .unset] [(.int p6)]))
      refine own_go (fun t_ k => XS.i2l X0.here hx rfl (hb hby d4_27) rfl k) ?_
      show WP p e below _ (s₁.setTop (mkF m 28 #[.val (.int p1), .val (.int p2), .val (.int p3), .val (.int p4), .val (.int p5), .val (.int p6), .val (.long ((p3.toInt64) * (((p5 - p4) + (1 : Int32)).toInt64))), .second, .unset, .unset] [(.long (p6.toInt64))]))
      refine own_go (fun t_ k => XS.iloadN X0.here hx rfl (hb hby d4_28) rfl k) ?_
      show WP p e below _ (s₁.setTop (mkF m 29 #[.val (.int p1), .val (.int p2), .val (.int p3), .val (.int p4), .val (.int p5), .val (.int p6), .val (.long ((p3.toInt64) * (((p5 - p4) + (1 : Int32)).toInt64))), .second, .unset, .unset] [(.int p2), (.long (p6.toInt64))]))
      refine own_go (fun t_ k => XS.iloadN X0.here hx rfl (hb hby d4_29) rfl k) ?_
      show WP p e below _ (s₁.setTop (mkF m 30 #[.val (.int p1), .val (.int p2), .val (.int p3), .val (.int p4), .val (.int p5), .val (.int p6), .val (.long ((p3.toInt64) * (((p5 - p4) + (1 : Int32)).toInt64))), .second, .unset, .unset] [(.int p1), (.int p2), (.long (p6.toInt64))]))
      refine own_go (fun t_ k => XS.isub X0.here hx rfl (hb hby d4_30) rfl k) ?_
      show WP p e below _ (s₁.setTop (mkF m 31 #[.val (.int p1), .val (.int p2), .val (.int p3), .val (.int p4), .val (.int p5), .val (.int p6), .val (.long ((p3.toInt64) * (((p5 - p4) + (1 : Int32)).toInt64))), .second, .unset, .unset] [(.int (p2 - p1)), (.long (p6.toInt64))]))
      refine own_go (fun t_ k => XS.iconst X0.here hx rfl (hb hby d4_31) k) ?_
      show WP p e below _ (s₁.setTop (mkF m 32 #[.val (.int p1), .val (.int p2), .val (.int p3), .val (.int p4), .val (.int p5), .val (.int p6), .val (.long ((p3.toInt64) * (((p5 - p4) + (1 : Int32)).toInt64))), .second, .unset, .unset] [(.int (1 : Int32)), (.int (p2 - p1)), (.long (p6.toInt64))]))
      refine own_go (fun t_ k => XS.iadd X0.here hx rfl (hb hby d4_32) rfl k) ?_
      show WP p e below _ (s₁.setTop (mkF m 33 #[.val (.int p1), .val (.int p2), .val (.int p3), .val (.int p4), .val (.int p5), .val (.int p6), .val (.long ((p3.toInt64) * (((p5 - p4) + (1 : Int32)).toInt64))), .second, .unset, .unset] [(.int ((p2 - p1) + (1 : Int32))), (.long (p6.toInt64))]))
      refine own_go (fun t_ k => XS.i2l X0.here hx rfl (hb hby d4_33) rfl k) ?_
      show WP p e below _ (s₁.setTop (mkF m 34 #[.val (.int p1), .val (.int p2), .val (.int p3), .val (.int p4), .val (.int p5), .val (.int p6), .val (.long ((p3.toInt64) * (((p5 - p4) + (1 : Int32)).toInt64))), .second, .unset, .unset] [(.long (((p2 - p1) + (1 : Int32)).toInt64)), (.long (p6.toInt64))]))
      refine own_go (fun t_ k => XS.lmul X0.here hx rfl (hb hby d4_34) rfl k) ?_
      show WP p e below _ (s₁.setTop (mkF m 35 #[.val (.int p1), .val (.int p2), .val (.int p3), .val (.int p4), .val (.int p5), .val (.int p6), .val (.long ((p3.toInt64) * (((p5 - p4) + (1 : Int32)).toInt64))), .second, .unset, .unset] [(.long ((p6.toInt64) * (((p2 - p1) + (1 : Int32)).toInt64)))]))
      refine own_go (fun t_ k => XS.lstore X0.here hx rfl (hb hby d4_35) rfl (l' := #[.val (.int p1), .val (.int p2), .val (.int p3), .val (.int p4), .val (.int p5), .val (.int p6), .val (.long ((p3.toInt64) * (((p5 - p4) + (1 : Int32)).toInt64))), .second, .val (.long ((p6.toInt64) * (((p2 - p1) + (1 : Int32)).toInt64))), .second]) rfl k) ?_
      show WP p e below _ (s₁.setTop (mkF m 37 #[.val (.int p1), .val (.int p2), .val (.int p3), .val (.int p4), .val (.int p5), .val (.int p6), .val (.long ((p3.toInt64) * (((p5 - p4) + (1 : Int32)).toInt64))), .second, .val (.long ((p6.toInt64) * (((p2 - p1) + (1 : Int32)).toInt64))), .second] []))
      refine own_go (fun t_ k => XS.lload X0.here hx rfl (hb hby d4_37) rfl k) ?_
      show WP p e below _ (s₁.setTop (mkF m 39 #[.val (.int p1), .val (.int p2), .val (.int p3), .val (.int p4), .val (.int p5), .val (.int p6), .val (.long ((p3.toInt64) * (((p5 - p4) + (1 : Int32)).toInt64))), .second, .val (.long ((p6.toInt64) * (((p2 - p1) + (1 : Int32)).toInt64))), .second] [(.long ((p3.toInt64) * (((p5 - p4) + (1 : Int32)).toInt64)))]))
      refine own_go (fun t_ k => X0.ldc2Long hx hown (mvT hZ (hw _ (List.mem_of_getElem? (i := 17) rfl))) (g := (mkF m 39 #[.val (.int p1), .val (.int p2), .val (.int p3), .val (.int p4), .val (.int p5), .val (.int p6), .val (.long ((p3.toInt64) * (((p5 - p4) + (1 : Int32)).toInt64))), .second, .val (.long ((p6.toInt64) * (((p2 - p1) + (1 : Int32)).toInt64))), .second] [(.long ((p3.toInt64) * (((p5 - p4) + (1 : Int32)).toInt64)))])) rfl (hb hby d4_39) _ k) ?_
      show WP p e below _ (s₁.setTop (mkF m 42 #[.val (.int p1), .val (.int p2), .val (.int p3), .val (.int p4), .val (.int p5), .val (.int p6), .val (.long ((p3.toInt64) * (((p5 - p4) + (1 : Int32)).toInt64))), .second, .val (.long ((p6.toInt64) * (((p2 - p1) + (1 : Int32)).toInt64))), .second] [(.long (32 : Int64)), (.long ((p3.toInt64) * (((p5 - p4) + (1 : Int32)).toInt64)))]))
      refine own_go (fun t_ k => XS.lmul X0.here hx rfl (hb hby d4_42) rfl k) ?_
      show WP p e below _ (s₁.setTop (mkF m 43 #[.val (.int p1), .val (.int p2), .val (.int p3), .val (.int p4), .val (.int p5), .val (.int p6), .val (.long ((p3.toInt64) * (((p5 - p4) + (1 : Int32)).toInt64))), .second, .val (.long ((p6.toInt64) * (((p2 - p1) + (1 : Int32)).toInt64))), .second] [(.long (((p3.toInt64) * (((p5 - p4) + (1 : Int32)).toInt64)) * (32 : Int64)))]))
      refine own_go (fun t_ k => XS.lload X0.here hx rfl (hb hby d4_43) rfl k) ?_
      show WP p e below _ (s₁.setTop (mkF m 45 #[.val (.int p1), .val (.int p2), .val (.int p3), .val (.int p4), .val (.int p5), .val (.int p6), .val (.long ((p3.toInt64) * (((p5 - p4) + (1 : Int32)).toInt64))), .second, .val (.long ((p6.toInt64) * (((p2 - p1) + (1 : Int32)).toInt64))), .second] [(.long ((p6.toInt64) * (((p2 - p1) + (1 : Int32)).toInt64))), (.long (((p3.toInt64) * (((p5 - p4) + (1 : Int32)).toInt64)) * (32 : Int64)))]))
      refine own_go (fun t_ k => XS.lcmp X0.here hx rfl (hb hby d4_45) rfl k) ?_
      show WP p e below _ (s₁.setTop (mkF m 46 #[.val (.int p1), .val (.int p2), .val (.int p3), .val (.int p4), .val (.int p5), .val (.int p6), .val (.long ((p3.toInt64) * (((p5 - p4) + (1 : Int32)).toInt64))), .second, .val (.long ((p6.toInt64) * (((p2 - p1) + (1 : Int32)).toInt64))), .second] [(.int (lcmpW (((p3.toInt64) * (((p5 - p4) + (1 : Int32)).toInt64)) * (32 : Int64)) ((p6.toInt64) * (((p2 - p1) + (1 : Int32)).toInt64))))]))
      by_cases hc46_3 : (((p3.toInt64) * (((p5 - p4) + (1 : Int32)).toInt64)) * (32 : Int64)) < ((p6.toInt64) * (((p2 - p1) + (1 : Int32)).toInt64))
      · refine own_go (fun t_ k => XS.ifNo X0.here hx rfl (hb hby d4_46) rfl ((if0 _ _).trans (tlt ((lw_lt _ _).mpr hc46_3)).2.1) k) ?_
        show WP p e below _ (s₁.setTop (mkF m 49 #[.val (.int p1), .val (.int p2), .val (.int p3), .val (.int p4), .val (.int p5), .val (.int p6), .val (.long ((p3.toInt64) * (((p5 - p4) + (1 : Int32)).toInt64))), .second, .val (.long ((p6.toInt64) * (((p2 - p1) + (1 : Int32)).toInt64))), .second] []))
        refine own_go (fun t_ k => XS.iconst X0.here hx rfl (hb hby d4_49) k) ?_
        show WP p e below _ (s₁.setTop (mkF m 50 #[.val (.int p1), .val (.int p2), .val (.int p3), .val (.int p4), .val (.int p5), .val (.int p6), .val (.long ((p3.toInt64) * (((p5 - p4) + (1 : Int32)).toInt64))), .second, .val (.long ((p6.toInt64) * (((p2 - p1) + (1 : Int32)).toInt64))), .second] [(.int (1 : Int32))]))
        exact own_retI X0 hx Bd.notSynchronized Bd.returns (hb hby d4_50) (show PQ h0 n0 (.int (f4 p1 p2 p3 p4 p5 p6)) _ _ _ from ⟨by rw [f4, if_neg hc2_1, if_neg hc8_2, if_pos hc46_3], N0, e0⟩) (by decide) (by decide)
      · refine own_go (fun t_ k => XS.ifYes X0.here hx rfl (pc0 := 46) (pc' := 51) rfl (hb hby d4_46) rfl ((if0 _ _).trans (flt (mt (lw_lt _ _).mp hc46_3)).2.1) (by decide) (by decide) k) ?_
        show WP p e below _ (s₁.setTop (mkF m 51 #[.val (.int p1), .val (.int p2), .val (.int p3), .val (.int p4), .val (.int p5), .val (.int p6), .val (.long ((p3.toInt64) * (((p5 - p4) + (1 : Int32)).toInt64))), .second, .val (.long ((p6.toInt64) * (((p2 - p1) + (1 : Int32)).toInt64))), .second] []))
        refine own_go (fun t_ k => XS.lload X0.here hx rfl (hb hby d4_51) rfl k) ?_
        show WP p e below _ (s₁.setTop (mkF m 53 #[.val (.int p1), .val (.int p2), .val (.int p3), .val (.int p4), .val (.int p5), .val (.int p6), .val (.long ((p3.toInt64) * (((p5 - p4) + (1 : Int32)).toInt64))), .second, .val (.long ((p6.toInt64) * (((p2 - p1) + (1 : Int32)).toInt64))), .second] [(.long ((p6.toInt64) * (((p2 - p1) + (1 : Int32)).toInt64)))]))
        refine own_go (fun t_ k => X0.ldc2Long hx hown (mvT hZ (hw _ (List.mem_of_getElem? (i := 17) rfl))) (g := (mkF m 53 #[.val (.int p1), .val (.int p2), .val (.int p3), .val (.int p4), .val (.int p5), .val (.int p6), .val (.long ((p3.toInt64) * (((p5 - p4) + (1 : Int32)).toInt64))), .second, .val (.long ((p6.toInt64) * (((p2 - p1) + (1 : Int32)).toInt64))), .second] [(.long ((p6.toInt64) * (((p2 - p1) + (1 : Int32)).toInt64)))])) rfl (hb hby d4_53) _ k) ?_
        show WP p e below _ (s₁.setTop (mkF m 56 #[.val (.int p1), .val (.int p2), .val (.int p3), .val (.int p4), .val (.int p5), .val (.int p6), .val (.long ((p3.toInt64) * (((p5 - p4) + (1 : Int32)).toInt64))), .second, .val (.long ((p6.toInt64) * (((p2 - p1) + (1 : Int32)).toInt64))), .second] [(.long (32 : Int64)), (.long ((p6.toInt64) * (((p2 - p1) + (1 : Int32)).toInt64)))]))
        refine own_go (fun t_ k => XS.lmul X0.here hx rfl (hb hby d4_56) rfl k) ?_
        show WP p e below _ (s₁.setTop (mkF m 57 #[.val (.int p1), .val (.int p2), .val (.int p3), .val (.int p4), .val (.int p5), .val (.int p6), .val (.long ((p3.toInt64) * (((p5 - p4) + (1 : Int32)).toInt64))), .second, .val (.long ((p6.toInt64) * (((p2 - p1) + (1 : Int32)).toInt64))), .second] [(.long (((p6.toInt64) * (((p2 - p1) + (1 : Int32)).toInt64)) * (32 : Int64)))]))
        refine own_go (fun t_ k => XS.lload X0.here hx rfl (hb hby d4_57) rfl k) ?_
        show WP p e below _ (s₁.setTop (mkF m 59 #[.val (.int p1), .val (.int p2), .val (.int p3), .val (.int p4), .val (.int p5), .val (.int p6), .val (.long ((p3.toInt64) * (((p5 - p4) + (1 : Int32)).toInt64))), .second, .val (.long ((p6.toInt64) * (((p2 - p1) + (1 : Int32)).toInt64))), .second] [(.long ((p3.toInt64) * (((p5 - p4) + (1 : Int32)).toInt64))), (.long (((p6.toInt64) * (((p2 - p1) + (1 : Int32)).toInt64)) * (32 : Int64)))]))
        refine own_go (fun t_ k => XS.lcmp X0.here hx rfl (hb hby d4_59) rfl k) ?_
        show WP p e below _ (s₁.setTop (mkF m 60 #[.val (.int p1), .val (.int p2), .val (.int p3), .val (.int p4), .val (.int p5), .val (.int p6), .val (.long ((p3.toInt64) * (((p5 - p4) + (1 : Int32)).toInt64))), .second, .val (.long ((p6.toInt64) * (((p2 - p1) + (1 : Int32)).toInt64))), .second] [(.int (lcmpW (((p6.toInt64) * (((p2 - p1) + (1 : Int32)).toInt64)) * (32 : Int64)) ((p3.toInt64) * (((p5 - p4) + (1 : Int32)).toInt64))))]))
        by_cases hc60_4 : (((p6.toInt64) * (((p2 - p1) + (1 : Int32)).toInt64)) * (32 : Int64)) < ((p3.toInt64) * (((p5 - p4) + (1 : Int32)).toInt64))
        · refine own_go (fun t_ k => XS.ifNo X0.here hx rfl (hb hby d4_60) rfl ((if0 _ _).trans (tlt ((lw_lt _ _).mpr hc60_4)).2.1) k) ?_
          show WP p e below _ (s₁.setTop (mkF m 63 #[.val (.int p1), .val (.int p2), .val (.int p3), .val (.int p4), .val (.int p5), .val (.int p6), .val (.long ((p3.toInt64) * (((p5 - p4) + (1 : Int32)).toInt64))), .second, .val (.long ((p6.toInt64) * (((p2 - p1) + (1 : Int32)).toInt64))), .second] []))
          refine own_go (fun t_ k => XS.iconst X0.here hx rfl (hb hby d4_63) k) ?_
          show WP p e below _ (s₁.setTop (mkF m 64 #[.val (.int p1), .val (.int p2), .val (.int p3), .val (.int p4), .val (.int p5), .val (.int p6), .val (.long ((p3.toInt64) * (((p5 - p4) + (1 : Int32)).toInt64))), .second, .val (.long ((p6.toInt64) * (((p2 - p1) + (1 : Int32)).toInt64))), .second] [(.int (2 : Int32))]))
          exact own_retI X0 hx Bd.notSynchronized Bd.returns (hb hby d4_64) (show PQ h0 n0 (.int (f4 p1 p2 p3 p4 p5 p6)) _ _ _ from ⟨by rw [f4, if_neg hc2_1, if_neg hc8_2, if_neg hc46_3, if_pos hc60_4], N0, e0⟩) (by decide) (by decide)
        · refine own_go (fun t_ k => XS.ifYes X0.here hx rfl (pc0 := 60) (pc' := 65) rfl (hb hby d4_60) rfl ((if0 _ _).trans (flt (mt (lw_lt _ _).mp hc60_4)).2.1) (by decide) (by decide) k) ?_
          show WP p e below _ (s₁.setTop (mkF m 65 #[.val (.int p1), .val (.int p2), .val (.int p3), .val (.int p4), .val (.int p5), .val (.int p6), .val (.long ((p3.toInt64) * (((p5 - p4) + (1 : Int32)).toInt64))), .second, .val (.long ((p6.toInt64) * (((p2 - p1) + (1 : Int32)).toInt64))), .second] []))
          refine own_go (fun t_ k => XS.iconst X0.here hx rfl (hb hby d4_65) k) ?_
          show WP p e below _ (s₁.setTop (mkF m 66 #[.val (.int p1), .val (.int p2), .val (.int p3), .val (.int p4), .val (.int p5), .val (.int p6), .val (.long ((p3.toInt64) * (((p5 - p4) + (1 : Int32)).toInt64))), .second, .val (.long ((p6.toInt64) * (((p2 - p1) + (1 : Int32)).toInt64))), .second] [(.int (3 : Int32))]))
          exact own_retI X0 hx Bd.notSynchronized Bd.returns (hb hby d4_66) (show PQ h0 n0 (.int (f4 p1 p2 p3 p4 p5 p6)) _ _ _ from ⟨by rw [f4, if_neg hc2_1, if_neg hc8_2, if_neg hc46_3, if_neg hc60_4], N0, e0⟩) (by decide) (by decide)
def f5 (p1 : Int32) : Int32 := (if p1 = (1 : Int32) then (2 : Int32) else (if p1 = (2 : Int32) then (1 : Int32) else p1))
theorem d5_0 : decode method_4_code 0 = .ok (.iload_n 0, 1) := by decide +kernel
theorem d5_1 : decode method_4_code 1 = .ok (.iconst 1, 1) := by decide +kernel
theorem d5_2 : decode method_4_code 2 = .ok (.if_icmp .ne 5, 3) := by decide +kernel
theorem d5_5 : decode method_4_code 5 = .ok (.iconst 2, 1) := by decide +kernel
theorem d5_6 : decode method_4_code 6 = .ok (.ireturn, 1) := by decide +kernel
theorem d5_7 : decode method_4_code 7 = .ok (.iload_n 0, 1) := by decide +kernel
theorem d5_8 : decode method_4_code 8 = .ok (.iconst 2, 1) := by decide +kernel
theorem d5_9 : decode method_4_code 9 = .ok (.if_icmp .ne 5, 3) := by decide +kernel
theorem d5_12 : decode method_4_code 12 = .ok (.iconst 1, 1) := by decide +kernel
theorem d5_13 : decode method_4_code 13 = .ok (.ireturn, 1) := by decide +kernel
theorem d5_14 : decode method_4_code 14 = .ok (.iload_n 0, 1) := by decide +kernel
theorem d5_15 : decode method_4_code 15 = .ok (.ireturn, 1) := by decide +kernel
theorem ef_rm5 (m : MethodId) (x0 : Int32) : entryFrame m #[(.int x0)] 1 = mkF m 0 #[.val (.int x0)] [] := by first | (simp [entryFrame, mkF, argsToLocals, Value.category]; done) | rfl
set_option maxRecDepth 65536 in
set_option maxHeartbeats 40000000 in
theorem rm5 (l : Launch) (Z : State) (a0 : Array Value) (hw : ∀ d ∈ tables_1, d.before a0 Z = true) (ws : List Jvm.Cond) (p1 : Int32) (h0 : Heap) (n0 : Nat) :
    MetFree l (⟨"com/example/cairn/cairn/ArrayMeetingWayPinLaw", "mirror", "(I)I"⟩ : MethodName) (head1 (Jvm.Cond.code (⟨"com/example/cairn/cairn/ArrayMeetingWayPinLaw", "mirror", "(I)I"⟩ : MethodName) method_4_code 1 (some .int) :: ws) ({ frames := 0, cells := 0, slots := 0, locals := 0 } : Room)) (fun a U => a = #[(.int p1)] ∧ Z.Warmed39 U.vm ∧ U.heap = h0) (fun _ _ _ _ _ => True) (fun _ U o U' => ∃ v L, o = .returned v ∧ (PQ h0 n0 (.int (f5 p1))) v U'.heap L ∧ FrameEnd U o U' L ({ frames := 0, cells := 0, slots := 0, locals := 0 } : Room).cells ({ frames := 0, cells := 0, slots := 0, locals := 0 } : Room).slots) := by
  refine MetFree.of_bodySF (plainFor_of_name pn_0) hisR ?_
  intro p e s m args below meth c s₁ Bd hml0 hP hK
  obtain ⟨rfl, hZ, hh⟩ := hP
  have hx := Bd.exec
  have hby := Bd.bytes
  have hml : c.maxLocals = 1 := hml0
  have hown : s.vm.findClass "com/example/cairn/cairn/ArrayMeetingWayPinLaw" = some m.cls := findClass_of_methodNamed Bd.named
  have hnm := (name_of_methodNamed Bd.named Bd.method).1
  have X0 : Stand p l e ({ frames := 0, cells := 0, slots := 0, locals := 0 } : Room) s m #[(.int p1)] below meth c s₁ [] 0 0 := Stand.of_body Bd
  have e0 : s₁.heap = h0 := by rw [← hh, Bd.state]; rfl
  have N0 := Fr.nil n0
  show WP p e below (GG (PQ h0 n0 (.int (f5 p1))) s ({ frames := 0, cells := 0, slots := 0, locals := 0 } : Room).cells ({ frames := 0, cells := 0, slots := 0, locals := 0 } : Room).slots) (s₁.setTop (entryFrame m #[(.int p1)] 1))
  rw [ef_rm5 m p1]
  show WP p e below _ (s₁.setTop (mkF m 0 #[.val (.int p1)] []))
  refine own_go (fun t_ k => XS.iloadN X0.here hx rfl (hb hby d5_0) rfl k) ?_
  show WP p e below _ (s₁.setTop (mkF m 1 #[.val (.int p1)] [(.int p1)]))
  refine own_go (fun t_ k => XS.iconst X0.here hx rfl (hb hby d5_1) k) ?_
  show WP p e below _ (s₁.setTop (mkF m 2 #[.val (.int p1)] [(.int (1 : Int32)), (.int p1)]))
  by_cases hc2_1 : p1 = (1 : Int32)
  · refine own_go (fun t_ k => XS.icmpNo X0.here hx rfl (hb hby d5_2) rfl (teq hc2_1).2 k) ?_
    show WP p e below _ (s₁.setTop (mkF m 5 #[.val (.int p1)] []))
    refine own_go (fun t_ k => XS.iconst X0.here hx rfl (hb hby d5_5) k) ?_
    show WP p e below _ (s₁.setTop (mkF m 6 #[.val (.int p1)] [(.int (2 : Int32))]))
    exact own_retI X0 hx Bd.notSynchronized Bd.returns (hb hby d5_6) (show PQ h0 n0 (.int (f5 p1)) _ _ _ from ⟨by rw [f5, if_pos hc2_1], N0, e0⟩) (by decide) (by decide)
  · refine own_go (fun t_ k => XS.icmpYes X0.here hx rfl (pc0 := 2) (pc' := 7) rfl (hb hby d5_2) rfl (feq hc2_1).2 (by decide) (by decide) k) ?_
    show WP p e below _ (s₁.setTop (mkF m 7 #[.val (.int p1)] []))
    refine own_go (fun t_ k => XS.iloadN X0.here hx rfl (hb hby d5_7) rfl k) ?_
    show WP p e below _ (s₁.setTop (mkF m 8 #[.val (.int p1)] [(.int p1)]))
    refine own_go (fun t_ k => XS.iconst X0.here hx rfl (hb hby d5_8) k) ?_
    show WP p e below _ (s₁.setTop (mkF m 9 #[.val (.int p1)] [(.int (2 : Int32)), (.int p1)]))
    by_cases hc9_2 : p1 = (2 : Int32)
    · refine own_go (fun t_ k => XS.icmpNo X0.here hx rfl (hb hby d5_9) rfl (teq hc9_2).2 k) ?_
      show WP p e below _ (s₁.setTop (mkF m 12 #[.val (.int p1)] []))
      refine own_go (fun t_ k => XS.iconst X0.here hx rfl (hb hby d5_12) k) ?_
      show WP p e below _ (s₁.setTop (mkF m 13 #[.val (.int p1)] [(.int (1 : Int32))]))
      exact own_retI X0 hx Bd.notSynchronized Bd.returns (hb hby d5_13) (show PQ h0 n0 (.int (f5 p1)) _ _ _ from ⟨by rw [f5, if_neg hc2_1, if_pos hc9_2], N0, e0⟩) (by decide) (by decide)
    · refine own_go (fun t_ k => XS.icmpYes X0.here hx rfl (pc0 := 9) (pc' := 14) rfl (hb hby d5_9) rfl (feq hc9_2).2 (by decide) (by decide) k) ?_
      show WP p e below _ (s₁.setTop (mkF m 14 #[.val (.int p1)] []))
      refine own_go (fun t_ k => XS.iloadN X0.here hx rfl (hb hby d5_14) rfl k) ?_
      show WP p e below _ (s₁.setTop (mkF m 15 #[.val (.int p1)] [(.int p1)]))
      exact own_retI X0 hx Bd.notSynchronized Bd.returns (hb hby d5_15) (show PQ h0 n0 (.int (f5 p1)) _ _ _ from ⟨by rw [f5, if_neg hc2_1, if_neg hc9_2], N0, e0⟩) (by decide) (by decide)
theorem own_width (h l : Int32) (h1 : 0 ≤ l.toInt) (h2 : l.toInt ≤ h.toInt) (h3 : h.toInt < 65536) : ((h - l) + 1).toInt64 = (h.toInt64 - l.toInt64) + 1 ∧ ((h.toInt64 - l.toInt64) + 1).toInt = h.toInt - l.toInt + 1 := by
  have a1 := c_i2l ((h - l) + 1)
  have a2 := c_i2l h
  have a3 := c_i2l l
  have a4 := c_isub h l
  have a5 := c_iadd (h - l) 1
  have a6 := c_lsub h.toInt64 l.toInt64
  have a7 := c_ladd (h.toInt64 - l.toInt64) 1
  have b1 := rng32 (h - l)
  have b2 := rng32 ((h - l) + 1)
  have b3 := rng64 (h.toInt64 - l.toInt64)
  have b4 := rng64 ((h.toInt64 - l.toInt64) + 1)
  have o1 : (1 : Int32).toInt = 1 := rfl
  have o2 : (1 : Int64).toInt = 1 := rfl
  have e : ((h.toInt64 - l.toInt64) + 1).toInt = h.toInt - l.toInt + 1 := by omega
  exact ⟨Int64.toInt_inj.mp (by omega), e⟩
theorem own_prod (c : Int32) (W : Int64) (h1 : 0 < c.toInt) (h2 : 0 ≤ W.toInt) (h3 : W.toInt ≤ 65536) : 0 ≤ (c.toInt64 * W).toInt ∧ (c.toInt64 * W).toInt ≤ 140737488355328 := by
  have a1 := c_lmul c.toInt64 W
  rw [c_i2l] at a1
  have b1 := rng32 c
  have b2 := rng64 (c.toInt64 * W)
  have p1 : 0 ≤ c.toInt * W.toInt := Int.mul_nonneg (by omega) h2
  have p2 : c.toInt * W.toInt ≤ 2147483648 * 65536 := Int.mul_le_mul (by omega) h3 h2 (by omega)
  generalize c.toInt * W.toInt = P at *
  omega
theorem own_shift (a W : Int64) : (32 * a) * W = (a * W) * 32 := by
  rw [Int64.mul_comm 32 a, Int64.mul_assoc, Int64.mul_comm 32 W, ← Int64.mul_assoc]
theorem own_way (fl fh fc sl sh sc : Int32) (h1 : 0 ≤ fl.toInt) (h2 : fl.toInt ≤ fh.toInt) (h3 : fh.toInt < 65536) (k1 : 0 ≤ sl.toInt) (k2 : sl.toInt ≤ sh.toInt) (k3 : sh.toInt < 65536) (c1 : 0 < fc.toInt) (c2 : 0 < sc.toInt) :
    f4 fl fh fc sl sh sc = f3 fl fh fc sl sh sc ∧ f4 sl sh sc fl fh fc = f5 (f3 fl fh fc sl sh sc) := by
  obtain ⟨w1, w1i⟩ := own_width fh fl h1 h2 h3
  obtain ⟨w2, w2i⟩ := own_width sh sl k1 k2 k3
  have a1 := own_prod fc ((sh.toInt64 - sl.toInt64) + 1) c1 (by omega) (by omega)
  have a2 := own_prod sc ((fh.toInt64 - fl.toInt64) + 1) c2 (by omega) (by omega)
  have ap : (f1 fh sh < f2 fl sl) ↔ (fh < sl ∨ sh < fl) := by
    unfold f1 f2
    split <;> split <;> simp only [Int32.lt_iff_toInt_lt] at * <;> omega
  unfold f3 f4
  rw [w1, w2, own_shift, own_shift]
  generalize fc.toInt64 * ((sh.toInt64 - sl.toInt64) + 1) = a at *
  generalize sc.toInt64 * ((fh.toInt64 - fl.toInt64) + 1) = b at *
  have m1 := c_lmul a 32
  have m2 := c_lmul b 32
  have o1 : (32 : Int64).toInt = 32 := rfl
  rw [o1] at m1 m2
  have r1 := rng64 (a * 32)
  have r2 := rng64 (b * 32)
  have ex : a * 32 < b → ¬ (b * 32 < a) := by
    intro q1 q2
    rw [Int64.lt_iff_toInt_lt] at q1 q2
    omega
  by_cases x1 : fh < sl
  · simp [ap, x1, f5]
  · by_cases x2 : sh < fl
    · simp [ap, x1, x2, f5]
    · by_cases y1 : a * 32 < b
      · have y2 := ex y1
        simp [ap, x1, x2, y1, y2, f5]
      · by_cases y2 : b * 32 < a <;> simp [ap, x1, x2, y1, y2, f5]
theorem own_char (x y : Int32) (h : (x.toUInt32.toUInt16.toUInt32.toInt32) = y) (h0 : 0 ≤ x.toInt) (h1 : x.toInt < 65536) : y.toInt = x.toInt := by
  have := c_i2c x
  rw [h] at this
  omega
theorem own_max1 (p : Int32) : 0 < (f2 1 (p &&& 2147483647)).toInt := by
  have o1 : (1 : Int32).toInt = 1 := rfl
  unfold f2
  split <;> rename_i h <;> simp only [Int32.lt_iff_toInt_lt] at h <;> omega
theorem pd_1 : parseMethodDescriptor "(CCICCI)I" = some ⟨[.char, .char, .int, .char, .char, .int], some .int⟩ := by decide +kernel
theorem pd_2 : parseMethodDescriptor "(I)I" = some ⟨[.int], some .int⟩ := by decide +kernel
theorem own_law_1 {p1 : Int32} {p2 : Int32} {p3 : Int32} {p4 : Int32} {vi1 : Int32} {vi2 : Int32} {vi3 : Int32} {vi4 : Int32} {vi6 : Int32} {vi7 : Int32} {vi9 : Int32} {vi10 : Int32} {vi12 : Int32} {vi13 : Int32} {vi15 : Int32} {vi16 : Int32} {vi18 : Int32} {vi20 : Int32} {vi22 : Int32} {vi24 : Int32} {vi26 : Int32} {z28_S0 : Int32}
    (he1 : (p1.toUInt32.toUInt16.toUInt32.toInt32) = vi1)
    (he2 : (((p1.toUInt32 >>> ((16 : Int32) &&& 31).toUInt32).toInt32).toUInt32.toUInt16.toUInt32.toInt32) = vi2)
    (he3 : (p3.toUInt32.toUInt16.toUInt32.toInt32) = vi3)
    (he4 : (((p3.toUInt32 >>> ((16 : Int32) &&& 31).toUInt32).toInt32).toUInt32.toUInt16.toUInt32.toInt32) = vi4)
    (he6 : (f1 vi1 vi2) = vi6)
    (he7 : (vi6.toUInt32.toUInt16.toUInt32.toInt32) = vi7)
    (he9 : (f2 vi1 vi2) = vi9)
    (he10 : (vi9.toUInt32.toUInt16.toUInt32.toInt32) = vi10)
    (he12 : (f1 vi3 vi4) = vi12)
    (he13 : (vi12.toUInt32.toUInt16.toUInt32.toInt32) = vi13)
    (he15 : (f2 vi3 vi4) = vi15)
    (he16 : (vi15.toUInt32.toUInt16.toUInt32.toInt32) = vi16)
    (he18 : (f2 (1 : Int32) (p2 &&& (2147483647 : Int32))) = vi18)
    (he20 : (f2 (1 : Int32) (p4 &&& (2147483647 : Int32))) = vi20)
    (he22 : (f3 vi7 vi10 vi18 vi13 vi16 vi20) = vi22)
    (he24 : (f4 vi7 vi10 vi18 vi13 vi16 vi20) = vi24)
    (he26 : (f4 vi13 vi16 vi20 vi7 vi10 vi18) = vi26)
    (hz28_S0 : z28_S0 = (if vi24 = vi22 then (if vi26 = (f5 vi22) then (1 : Int32) else (0 : Int32)) else (0 : Int32)))  : z28_S0 = 1 := by
  have a1 := c_i2c p1
  have a2 := c_i2c ((p1.toUInt32 >>> ((16 : Int32) &&& 31).toUInt32).toInt32)
  have a3 := c_i2c p3
  have a4 := c_i2c ((p3.toUInt32 >>> ((16 : Int32) &&& 31).toUInt32).toInt32)
  rw [he1] at a1
  rw [he2] at a2
  rw [he3] at a3
  rw [he4] at a4
  have b1 : vi6.toInt ≤ vi9.toInt ∧ 0 ≤ vi6.toInt ∧ vi9.toInt < 65536 := by
    subst he6 he9
    unfold f1 f2
    split <;> split <;> simp only [Int32.lt_iff_toInt_lt] at * <;> omega
  have b2 : vi12.toInt ≤ vi15.toInt ∧ 0 ≤ vi12.toInt ∧ vi15.toInt < 65536 := by
    subst he12 he15
    unfold f1 f2
    split <;> split <;> simp only [Int32.lt_iff_toInt_lt] at * <;> omega
  have d1 := own_char _ _ he7 (by omega) (by omega)
  have d2 := own_char _ _ he10 (by omega) (by omega)
  have d3 := own_char _ _ he13 (by omega) (by omega)
  have d4 := own_char _ _ he16 (by omega) (by omega)
  have m1 := own_max1 p2
  have m2 := own_max1 p4
  rw [he18] at m1
  rw [he20] at m2
  obtain ⟨w1, w2⟩ := own_way vi7 vi10 vi18 vi13 vi16 vi20 (by omega) (by omega) (by omega) (by omega) (by omega) (by omega) m1 m2
  rw [he24, he22] at w1
  rw [he26, he22] at w2
  rw [if_pos w1, if_pos w2] at hz28_S0
  exact hz28_S0
theorem ef_rm0 (m : MethodId) (x0 : Int32) (x1 : Int32) (x2 : Int32) (x3 : Int32) : entryFrame m #[(.int x0), (.int x1), (.int x2), (.int x3)] maxLocals = mkF m 0 #[.val (.int x0), .val (.int x1), .val (.int x2), .val (.int x3), .unset, .unset, .unset, .unset, .unset, .unset, .unset, .unset, .unset, .unset, .unset, .unset, .unset] [] := by first | (simp [entryFrame, mkF, argsToLocals, Value.category, maxLocals]; done) | rfl
set_option maxRecDepth 65536 in
set_option maxHeartbeats 40000000 in
theorem rm0 (l : Launch) (Z : State) (a0 : Array Value) (hw : ∀ d ∈ tables_1, d.before a0 Z = true) (ws : List Jvm.Cond) (p1 : Int32) (p2 : Int32) (p3 : Int32) (p4 : Int32) (h0 : Heap) (n0 : Nat) (Z0 : n0 ≤ h0.size) :
    MetFree l x (head1 (Jvm.Cond.code x code maxLocals ret :: ws) room_1) (fun a U => a = #[(.int p1), (.int p2), (.int p3), (.int p4)] ∧ Z.Warmed39 U.vm ∧ U.heap = h0) (fun _ _ _ _ _ => True) (fun _ U o U' => ∃ v L, o = .returned v ∧ (Q0 n0) v U'.heap L ∧ FrameEnd U o U' L room_1.cells room_1.slots) := by
  refine MetFree.of_bodySF (plainFor_of_name pn_0) hisR ?_
  intro p e s m args below meth c s₁ Bd hml0 hP hK
  obtain ⟨rfl, hZ, hh⟩ := hP
  have hx := Bd.exec
  have hby := Bd.bytes
  have hml : c.maxLocals = 17 := hml0
  have hown : s.vm.findClass "com/example/cairn/cairn/ArrayMeetingWayPinLaw" = some m.cls := findClass_of_methodNamed Bd.named
  have hnm := (name_of_methodNamed Bd.named Bd.method).1
  have X0 : Stand p l e room_1 s m #[(.int p1), (.int p2), (.int p3), (.int p4)] below meth c s₁ [] 0 0 := Stand.of_body Bd
  have e0 : s₁.heap = h0 := by rw [← hh, Bd.state]; rfl
  have N0 := Fr.nil n0
  show WP p e below (GG (Q0 n0) s room_1.cells room_1.slots) (s₁.setTop (entryFrame m #[(.int p1), (.int p2), (.int p3), (.int p4)] maxLocals))
  rw [ef_rm0 m p1 p2 p3 p4]
  show WP p e below _ (s₁.setTop (mkF m 0 #[.val (.int p1), .val (.int p2), .val (.int p3), .val (.int p4), .unset, .unset, .unset, .unset, .unset, .unset, .unset, .unset, .unset, .unset, .unset, .unset, .unset] []))
  refine own_go (fun t_ k => XS.iloadN X0.here hx rfl (hb hby at_0) rfl k) ?_
  show WP p e below _ (s₁.setTop (mkF m 1 #[.val (.int p1), .val (.int p2), .val (.int p3), .val (.int p4), .unset, .unset, .unset, .unset, .unset, .unset, .unset, .unset, .unset, .unset, .unset, .unset, .unset] [(.int p1)]))
  refine own_go (fun t_ k => XS.i2c X0.here hx rfl (hb hby at_1) rfl k) ?_
  show WP p e below _ (s₁.setTop (mkF m 2 #[.val (.int p1), .val (.int p2), .val (.int p3), .val (.int p4), .unset, .unset, .unset, .unset, .unset, .unset, .unset, .unset, .unset, .unset, .unset, .unset, .unset] [(.int (p1.toUInt32.toUInt16.toUInt32.toInt32))]))
  refine own_go (fun t_ k => XS.istore X0.here hx rfl (hb hby at_2) rfl (l' := #[.val (.int p1), .val (.int p2), .val (.int p3), .val (.int p4), .val (.int (p1.toUInt32.toUInt16.toUInt32.toInt32)), .unset, .unset, .unset, .unset, .unset, .unset, .unset, .unset, .unset, .unset, .unset, .unset]) rfl k) ?_
  show WP p e below _ (s₁.setTop (mkF m 4 #[.val (.int p1), .val (.int p2), .val (.int p3), .val (.int p4), .val (.int (p1.toUInt32.toUInt16.toUInt32.toInt32)), .unset, .unset, .unset, .unset, .unset, .unset, .unset, .unset, .unset, .unset, .unset, .unset] []))
  generalize he1 : (p1.toUInt32.toUInt16.toUInt32.toInt32) = vi1
  show WP p e below _ (s₁.setTop (mkF m 4 #[.val (.int p1), .val (.int p2), .val (.int p3), .val (.int p4), .val (.int vi1), .unset, .unset, .unset, .unset, .unset, .unset, .unset, .unset, .unset, .unset, .unset, .unset] []))
  refine own_go (fun t_ k => XS.iloadN X0.here hx rfl (hb hby at_4) rfl k) ?_
  show WP p e below _ (s₁.setTop (mkF m 5 #[.val (.int p1), .val (.int p2), .val (.int p3), .val (.int p4), .val (.int vi1), .unset, .unset, .unset, .unset, .unset, .unset, .unset, .unset, .unset, .unset, .unset, .unset] [(.int p1)]))
  refine own_go (fun t_ k => XS.bipush X0.here hx rfl (hb hby at_5) k) ?_
  show WP p e below _ (s₁.setTop (mkF m 7 #[.val (.int p1), .val (.int p2), .val (.int p3), .val (.int p4), .val (.int vi1), .unset, .unset, .unset, .unset, .unset, .unset, .unset, .unset, .unset, .unset, .unset, .unset] [(.int (16 : Int32)), (.int p1)]))
  refine own_go (fun t_ k => XS.iushr X0.here hx rfl (hb hby at_7) rfl k) ?_
  show WP p e below _ (s₁.setTop (mkF m 8 #[.val (.int p1), .val (.int p2), .val (.int p3), .val (.int p4), .val (.int vi1), .unset, .unset, .unset, .unset, .unset, .unset, .unset, .unset, .unset, .unset, .unset, .unset] [(.int ((p1.toUInt32 >>> ((16 : Int32) &&& 31).toUInt32).toInt32))]))
  refine own_go (fun t_ k => XS.i2c X0.here hx rfl (hb hby at_8) rfl k) ?_
  show WP p e below _ (s₁.setTop (mkF m 9 #[.val (.int p1), .val (.int p2), .val (.int p3), .val (.int p4), .val (.int vi1), .unset, .unset, .unset, .unset, .unset, .unset, .unset, .unset, .unset, .unset, .unset, .unset] [(.int (((p1.toUInt32 >>> ((16 : Int32) &&& 31).toUInt32).toInt32).toUInt32.toUInt16.toUInt32.toInt32))]))
  refine own_go (fun t_ k => XS.istore X0.here hx rfl (hb hby at_9) rfl (l' := #[.val (.int p1), .val (.int p2), .val (.int p3), .val (.int p4), .val (.int vi1), .val (.int (((p1.toUInt32 >>> ((16 : Int32) &&& 31).toUInt32).toInt32).toUInt32.toUInt16.toUInt32.toInt32)), .unset, .unset, .unset, .unset, .unset, .unset, .unset, .unset, .unset, .unset, .unset]) rfl k) ?_
  show WP p e below _ (s₁.setTop (mkF m 11 #[.val (.int p1), .val (.int p2), .val (.int p3), .val (.int p4), .val (.int vi1), .val (.int (((p1.toUInt32 >>> ((16 : Int32) &&& 31).toUInt32).toInt32).toUInt32.toUInt16.toUInt32.toInt32)), .unset, .unset, .unset, .unset, .unset, .unset, .unset, .unset, .unset, .unset, .unset] []))
  generalize he2 : (((p1.toUInt32 >>> ((16 : Int32) &&& 31).toUInt32).toInt32).toUInt32.toUInt16.toUInt32.toInt32) = vi2
  show WP p e below _ (s₁.setTop (mkF m 11 #[.val (.int p1), .val (.int p2), .val (.int p3), .val (.int p4), .val (.int vi1), .val (.int vi2), .unset, .unset, .unset, .unset, .unset, .unset, .unset, .unset, .unset, .unset, .unset] []))
  refine own_go (fun t_ k => XS.iloadN X0.here hx rfl (hb hby at_11) rfl k) ?_
  show WP p e below _ (s₁.setTop (mkF m 12 #[.val (.int p1), .val (.int p2), .val (.int p3), .val (.int p4), .val (.int vi1), .val (.int vi2), .unset, .unset, .unset, .unset, .unset, .unset, .unset, .unset, .unset, .unset, .unset] [(.int p3)]))
  refine own_go (fun t_ k => XS.i2c X0.here hx rfl (hb hby at_12) rfl k) ?_
  show WP p e below _ (s₁.setTop (mkF m 13 #[.val (.int p1), .val (.int p2), .val (.int p3), .val (.int p4), .val (.int vi1), .val (.int vi2), .unset, .unset, .unset, .unset, .unset, .unset, .unset, .unset, .unset, .unset, .unset] [(.int (p3.toUInt32.toUInt16.toUInt32.toInt32))]))
  refine own_go (fun t_ k => XS.istore X0.here hx rfl (hb hby at_13) rfl (l' := #[.val (.int p1), .val (.int p2), .val (.int p3), .val (.int p4), .val (.int vi1), .val (.int vi2), .val (.int (p3.toUInt32.toUInt16.toUInt32.toInt32)), .unset, .unset, .unset, .unset, .unset, .unset, .unset, .unset, .unset, .unset]) rfl k) ?_
  show WP p e below _ (s₁.setTop (mkF m 15 #[.val (.int p1), .val (.int p2), .val (.int p3), .val (.int p4), .val (.int vi1), .val (.int vi2), .val (.int (p3.toUInt32.toUInt16.toUInt32.toInt32)), .unset, .unset, .unset, .unset, .unset, .unset, .unset, .unset, .unset, .unset] []))
  generalize he3 : (p3.toUInt32.toUInt16.toUInt32.toInt32) = vi3
  show WP p e below _ (s₁.setTop (mkF m 15 #[.val (.int p1), .val (.int p2), .val (.int p3), .val (.int p4), .val (.int vi1), .val (.int vi2), .val (.int vi3), .unset, .unset, .unset, .unset, .unset, .unset, .unset, .unset, .unset, .unset] []))
  refine own_go (fun t_ k => XS.iloadN X0.here hx rfl (hb hby at_15) rfl k) ?_
  show WP p e below _ (s₁.setTop (mkF m 16 #[.val (.int p1), .val (.int p2), .val (.int p3), .val (.int p4), .val (.int vi1), .val (.int vi2), .val (.int vi3), .unset, .unset, .unset, .unset, .unset, .unset, .unset, .unset, .unset, .unset] [(.int p3)]))
  refine own_go (fun t_ k => XS.bipush X0.here hx rfl (hb hby at_16) k) ?_
  show WP p e below _ (s₁.setTop (mkF m 18 #[.val (.int p1), .val (.int p2), .val (.int p3), .val (.int p4), .val (.int vi1), .val (.int vi2), .val (.int vi3), .unset, .unset, .unset, .unset, .unset, .unset, .unset, .unset, .unset, .unset] [(.int (16 : Int32)), (.int p3)]))
  refine own_go (fun t_ k => XS.iushr X0.here hx rfl (hb hby at_18) rfl k) ?_
  show WP p e below _ (s₁.setTop (mkF m 19 #[.val (.int p1), .val (.int p2), .val (.int p3), .val (.int p4), .val (.int vi1), .val (.int vi2), .val (.int vi3), .unset, .unset, .unset, .unset, .unset, .unset, .unset, .unset, .unset, .unset] [(.int ((p3.toUInt32 >>> ((16 : Int32) &&& 31).toUInt32).toInt32))]))
  refine own_go (fun t_ k => XS.i2c X0.here hx rfl (hb hby at_19) rfl k) ?_
  show WP p e below _ (s₁.setTop (mkF m 20 #[.val (.int p1), .val (.int p2), .val (.int p3), .val (.int p4), .val (.int vi1), .val (.int vi2), .val (.int vi3), .unset, .unset, .unset, .unset, .unset, .unset, .unset, .unset, .unset, .unset] [(.int (((p3.toUInt32 >>> ((16 : Int32) &&& 31).toUInt32).toInt32).toUInt32.toUInt16.toUInt32.toInt32))]))
  refine own_go (fun t_ k => XS.istore X0.here hx rfl (hb hby at_20) rfl (l' := #[.val (.int p1), .val (.int p2), .val (.int p3), .val (.int p4), .val (.int vi1), .val (.int vi2), .val (.int vi3), .val (.int (((p3.toUInt32 >>> ((16 : Int32) &&& 31).toUInt32).toInt32).toUInt32.toUInt16.toUInt32.toInt32)), .unset, .unset, .unset, .unset, .unset, .unset, .unset, .unset, .unset]) rfl k) ?_
  show WP p e below _ (s₁.setTop (mkF m 22 #[.val (.int p1), .val (.int p2), .val (.int p3), .val (.int p4), .val (.int vi1), .val (.int vi2), .val (.int vi3), .val (.int (((p3.toUInt32 >>> ((16 : Int32) &&& 31).toUInt32).toInt32).toUInt32.toUInt16.toUInt32.toInt32)), .unset, .unset, .unset, .unset, .unset, .unset, .unset, .unset, .unset] []))
  generalize he4 : (((p3.toUInt32 >>> ((16 : Int32) &&& 31).toUInt32).toInt32).toUInt32.toUInt16.toUInt32.toInt32) = vi4
  show WP p e below _ (s₁.setTop (mkF m 22 #[.val (.int p1), .val (.int p2), .val (.int p3), .val (.int p4), .val (.int vi1), .val (.int vi2), .val (.int vi3), .val (.int vi4), .unset, .unset, .unset, .unset, .unset, .unset, .unset, .unset, .unset] []))
  refine own_go (fun t_ k => XS.iload X0.here hx rfl (hb hby at_22) rfl k) ?_
  show WP p e below _ (s₁.setTop (mkF m 24 #[.val (.int p1), .val (.int p2), .val (.int p3), .val (.int p4), .val (.int vi1), .val (.int vi2), .val (.int vi3), .val (.int vi4), .unset, .unset, .unset, .unset, .unset, .unset, .unset, .unset, .unset] [(.int vi1)]))
  refine own_go (fun t_ k => XS.iload X0.here hx rfl (hb hby at_24) rfl k) ?_
  show WP p e below _ (s₁.setTop (mkF m 26 #[.val (.int p1), .val (.int p2), .val (.int p3), .val (.int p4), .val (.int vi1), .val (.int vi2), .val (.int vi3), .val (.int vi4), .unset, .unset, .unset, .unset, .unset, .unset, .unset, .unset, .unset] [(.int vi2), (.int vi1)]))
  obtain ⟨_, _, ⟨T5, L5, k5, n5⟩, -, X5, ⟨Lc5, hQ5, l5, y5, z5⟩, st5⟩ := Jvm.LawKit.callS X0 hx (y := (⟨"java/lang/Math", "min", "(II)I"⟩ : MethodName)) hown (mvT hZ (hw _ (List.mem_of_getElem? (i := 0) rfl))) (mvT hZ (hw _ (List.mem_of_getElem? (i := 1) rfl))) (mvT hZ (hw _ (List.mem_of_getElem? (i := 2) rfl))) (mvT hZ (hw _ (List.mem_of_getElem? (i := 3) rfl))) (by decide) (backOf (W := 0) (rm1 l Z a0 hw [] vi1 vi2 h0 n0) hZ (hw _ (List.mem_of_getElem? (i := 3) rfl)) (hw _ (List.mem_of_getElem? (i := 2) rfl)) (by decide) (by decide)) (g := (mkF m 26 #[.val (.int p1), .val (.int p2), .val (.int p3), .val (.int p4), .val (.int vi1), .val (.int vi2), .val (.int vi3), .val (.int vi4), .unset, .unset, .unset, .unset, .unset, .unset, .unset, .unset, .unset] [(.int vi2), (.int vi1)])) rfl (by rw [hml]; rfl) (argsL := [(.int vi1), (.int vi2)]) (rest := []) (lenOf pd_0 rfl) rfl (by show 2 * 0 + _ ≤ _; exact Nat.le_of_eq rfl) (hb hby at_26) (fun _ _ => ⟨rfl, e0, (by decide : 0 + 0 ≤ _), (by decide : 0 + 0 ≤ _)⟩)
  dsimp only [Pt.U, Pt.locs, Pt.cells, Pt.slots] at X5 l5 y5 z5 st5 hQ5
  subst l5 y5 z5
  obtain ⟨rfl, N5q, e5⟩ := hQ5
  have N5 := Fr.app N0 N5q
  replace X5 : Stand p l e room_1 s m _ below meth c T5 _ 0 0 := X5
  refine own_go st5 ?_
  show WP p e below _ (T5.setTop (mkF m 29 #[.val (.int p1), .val (.int p2), .val (.int p3), .val (.int p4), .val (.int vi1), .val (.int vi2), .val (.int vi3), .val (.int vi4), .unset, .unset, .unset, .unset, .unset, .unset, .unset, .unset, .unset] [(.int (f1 vi1 vi2))]))
  generalize he6 : (f1 vi1 vi2) = vi6
  show WP p e below _ (T5.setTop (mkF m 29 #[.val (.int p1), .val (.int p2), .val (.int p3), .val (.int p4), .val (.int vi1), .val (.int vi2), .val (.int vi3), .val (.int vi4), .unset, .unset, .unset, .unset, .unset, .unset, .unset, .unset, .unset] [(.int vi6)]))
  refine own_go (fun t_ k => XS.i2c X5.here hx rfl (hb hby at_29) rfl k) ?_
  show WP p e below _ (T5.setTop (mkF m 30 #[.val (.int p1), .val (.int p2), .val (.int p3), .val (.int p4), .val (.int vi1), .val (.int vi2), .val (.int vi3), .val (.int vi4), .unset, .unset, .unset, .unset, .unset, .unset, .unset, .unset, .unset] [(.int (vi6.toUInt32.toUInt16.toUInt32.toInt32))]))
  refine own_go (fun t_ k => XS.istore X5.here hx rfl (hb hby at_30) rfl (l' := #[.val (.int p1), .val (.int p2), .val (.int p3), .val (.int p4), .val (.int vi1), .val (.int vi2), .val (.int vi3), .val (.int vi4), .val (.int (vi6.toUInt32.toUInt16.toUInt32.toInt32)), .unset, .unset, .unset, .unset, .unset, .unset, .unset, .unset]) rfl k) ?_
  show WP p e below _ (T5.setTop (mkF m 32 #[.val (.int p1), .val (.int p2), .val (.int p3), .val (.int p4), .val (.int vi1), .val (.int vi2), .val (.int vi3), .val (.int vi4), .val (.int (vi6.toUInt32.toUInt16.toUInt32.toInt32)), .unset, .unset, .unset, .unset, .unset, .unset, .unset, .unset] []))
  generalize he7 : (vi6.toUInt32.toUInt16.toUInt32.toInt32) = vi7
  show WP p e below _ (T5.setTop (mkF m 32 #[.val (.int p1), .val (.int p2), .val (.int p3), .val (.int p4), .val (.int vi1), .val (.int vi2), .val (.int vi3), .val (.int vi4), .val (.int vi7), .unset, .unset, .unset, .unset, .unset, .unset, .unset, .unset] []))
  refine own_go (fun t_ k => XS.iload X5.here hx rfl (hb hby at_32) rfl k) ?_
  show WP p e below _ (T5.setTop (mkF m 34 #[.val (.int p1), .val (.int p2), .val (.int p3), .val (.int p4), .val (.int vi1), .val (.int vi2), .val (.int vi3), .val (.int vi4), .val (.int vi7), .unset, .unset, .unset, .unset, .unset, .unset, .unset, .unset] [(.int vi1)]))
  refine own_go (fun t_ k => XS.iload X5.here hx rfl (hb hby at_34) rfl k) ?_
  show WP p e below _ (T5.setTop (mkF m 36 #[.val (.int p1), .val (.int p2), .val (.int p3), .val (.int p4), .val (.int vi1), .val (.int vi2), .val (.int vi3), .val (.int vi4), .val (.int vi7), .unset, .unset, .unset, .unset, .unset, .unset, .unset, .unset] [(.int vi2), (.int vi1)]))
  obtain ⟨_, _, ⟨T8, L8, k8, n8⟩, -, X8, ⟨Lc8, hQ8, l8, y8, z8⟩, st8⟩ := Jvm.LawKit.callS X5 hx (y := (⟨"java/lang/Math", "max", "(II)I"⟩ : MethodName)) hown (mvT hZ (hw _ (List.mem_of_getElem? (i := 4) rfl))) (mvT hZ (hw _ (List.mem_of_getElem? (i := 5) rfl))) (mvT hZ (hw _ (List.mem_of_getElem? (i := 2) rfl))) (mvT hZ (hw _ (List.mem_of_getElem? (i := 6) rfl))) (by decide) (backOf (W := 0) (rm2 l Z a0 hw [] vi1 vi2 h0 n0) hZ (hw _ (List.mem_of_getElem? (i := 6) rfl)) (hw _ (List.mem_of_getElem? (i := 2) rfl)) (by decide) (by decide)) (g := (mkF m 36 #[.val (.int p1), .val (.int p2), .val (.int p3), .val (.int p4), .val (.int vi1), .val (.int vi2), .val (.int vi3), .val (.int vi4), .val (.int vi7), .unset, .unset, .unset, .unset, .unset, .unset, .unset, .unset] [(.int vi2), (.int vi1)])) rfl (by rw [hml]; rfl) (argsL := [(.int vi1), (.int vi2)]) (rest := []) (lenOf pd_0 rfl) rfl (by show 2 * 0 + _ ≤ _; exact Nat.le_of_eq rfl) (hb hby at_36) (fun _ _ => ⟨rfl, e5, (by decide : 0 + 0 ≤ _), (by decide : 0 + 0 ≤ _)⟩)
  dsimp only [Pt.U, Pt.locs, Pt.cells, Pt.slots] at X8 l8 y8 z8 st8 hQ8
  subst l8 y8 z8
  obtain ⟨rfl, N8q, e8⟩ := hQ8
  have N8 := Fr.app N5 N8q
  replace X8 : Stand p l e room_1 s m _ below meth c T8 _ 0 0 := X8
  refine own_go st8 ?_
  show WP p e below _ (T8.setTop (mkF m 39 #[.val (.int p1), .val (.int p2), .val (.int p3), .val (.int p4), .val (.int vi1), .val (.int vi2), .val (.int vi3), .val (.int vi4), .val (.int vi7), .unset, .unset, .unset, .unset, .unset, .unset, .unset, .unset] [(.int (f2 vi1 vi2))]))
  generalize he9 : (f2 vi1 vi2) = vi9
  show WP p e below _ (T8.setTop (mkF m 39 #[.val (.int p1), .val (.int p2), .val (.int p3), .val (.int p4), .val (.int vi1), .val (.int vi2), .val (.int vi3), .val (.int vi4), .val (.int vi7), .unset, .unset, .unset, .unset, .unset, .unset, .unset, .unset] [(.int vi9)]))
  refine own_go (fun t_ k => XS.i2c X8.here hx rfl (hb hby at_39) rfl k) ?_
  show WP p e below _ (T8.setTop (mkF m 40 #[.val (.int p1), .val (.int p2), .val (.int p3), .val (.int p4), .val (.int vi1), .val (.int vi2), .val (.int vi3), .val (.int vi4), .val (.int vi7), .unset, .unset, .unset, .unset, .unset, .unset, .unset, .unset] [(.int (vi9.toUInt32.toUInt16.toUInt32.toInt32))]))
  refine own_go (fun t_ k => XS.istore X8.here hx rfl (hb hby at_40) rfl (l' := #[.val (.int p1), .val (.int p2), .val (.int p3), .val (.int p4), .val (.int vi1), .val (.int vi2), .val (.int vi3), .val (.int vi4), .val (.int vi7), .val (.int (vi9.toUInt32.toUInt16.toUInt32.toInt32)), .unset, .unset, .unset, .unset, .unset, .unset, .unset]) rfl k) ?_
  show WP p e below _ (T8.setTop (mkF m 42 #[.val (.int p1), .val (.int p2), .val (.int p3), .val (.int p4), .val (.int vi1), .val (.int vi2), .val (.int vi3), .val (.int vi4), .val (.int vi7), .val (.int (vi9.toUInt32.toUInt16.toUInt32.toInt32)), .unset, .unset, .unset, .unset, .unset, .unset, .unset] []))
  generalize he10 : (vi9.toUInt32.toUInt16.toUInt32.toInt32) = vi10
  show WP p e below _ (T8.setTop (mkF m 42 #[.val (.int p1), .val (.int p2), .val (.int p3), .val (.int p4), .val (.int vi1), .val (.int vi2), .val (.int vi3), .val (.int vi4), .val (.int vi7), .val (.int vi10), .unset, .unset, .unset, .unset, .unset, .unset, .unset] []))
  refine own_go (fun t_ k => XS.iload X8.here hx rfl (hb hby at_42) rfl k) ?_
  show WP p e below _ (T8.setTop (mkF m 44 #[.val (.int p1), .val (.int p2), .val (.int p3), .val (.int p4), .val (.int vi1), .val (.int vi2), .val (.int vi3), .val (.int vi4), .val (.int vi7), .val (.int vi10), .unset, .unset, .unset, .unset, .unset, .unset, .unset] [(.int vi3)]))
  refine own_go (fun t_ k => XS.iload X8.here hx rfl (hb hby at_44) rfl k) ?_
  show WP p e below _ (T8.setTop (mkF m 46 #[.val (.int p1), .val (.int p2), .val (.int p3), .val (.int p4), .val (.int vi1), .val (.int vi2), .val (.int vi3), .val (.int vi4), .val (.int vi7), .val (.int vi10), .unset, .unset, .unset, .unset, .unset, .unset, .unset] [(.int vi4), (.int vi3)]))
  obtain ⟨_, _, ⟨T11, L11, k11, n11⟩, -, X11, ⟨Lc11, hQ11, l11, y11, z11⟩, st11⟩ := Jvm.LawKit.callS X8 hx (y := (⟨"java/lang/Math", "min", "(II)I"⟩ : MethodName)) hown (mvT hZ (hw _ (List.mem_of_getElem? (i := 0) rfl))) (mvT hZ (hw _ (List.mem_of_getElem? (i := 1) rfl))) (mvT hZ (hw _ (List.mem_of_getElem? (i := 2) rfl))) (mvT hZ (hw _ (List.mem_of_getElem? (i := 3) rfl))) (by decide) (backOf (W := 0) (rm1 l Z a0 hw [] vi3 vi4 h0 n0) hZ (hw _ (List.mem_of_getElem? (i := 3) rfl)) (hw _ (List.mem_of_getElem? (i := 2) rfl)) (by decide) (by decide)) (g := (mkF m 46 #[.val (.int p1), .val (.int p2), .val (.int p3), .val (.int p4), .val (.int vi1), .val (.int vi2), .val (.int vi3), .val (.int vi4), .val (.int vi7), .val (.int vi10), .unset, .unset, .unset, .unset, .unset, .unset, .unset] [(.int vi4), (.int vi3)])) rfl (by rw [hml]; rfl) (argsL := [(.int vi3), (.int vi4)]) (rest := []) (lenOf pd_0 rfl) rfl (by show 2 * 0 + _ ≤ _; exact Nat.le_of_eq rfl) (hb hby at_46) (fun _ _ => ⟨rfl, e8, (by decide : 0 + 0 ≤ _), (by decide : 0 + 0 ≤ _)⟩)
  dsimp only [Pt.U, Pt.locs, Pt.cells, Pt.slots] at X11 l11 y11 z11 st11 hQ11
  subst l11 y11 z11
  obtain ⟨rfl, N11q, e11⟩ := hQ11
  have N11 := Fr.app N8 N11q
  replace X11 : Stand p l e room_1 s m _ below meth c T11 _ 0 0 := X11
  refine own_go st11 ?_
  show WP p e below _ (T11.setTop (mkF m 49 #[.val (.int p1), .val (.int p2), .val (.int p3), .val (.int p4), .val (.int vi1), .val (.int vi2), .val (.int vi3), .val (.int vi4), .val (.int vi7), .val (.int vi10), .unset, .unset, .unset, .unset, .unset, .unset, .unset] [(.int (f1 vi3 vi4))]))
  generalize he12 : (f1 vi3 vi4) = vi12
  show WP p e below _ (T11.setTop (mkF m 49 #[.val (.int p1), .val (.int p2), .val (.int p3), .val (.int p4), .val (.int vi1), .val (.int vi2), .val (.int vi3), .val (.int vi4), .val (.int vi7), .val (.int vi10), .unset, .unset, .unset, .unset, .unset, .unset, .unset] [(.int vi12)]))
  refine own_go (fun t_ k => XS.i2c X11.here hx rfl (hb hby at_49) rfl k) ?_
  show WP p e below _ (T11.setTop (mkF m 50 #[.val (.int p1), .val (.int p2), .val (.int p3), .val (.int p4), .val (.int vi1), .val (.int vi2), .val (.int vi3), .val (.int vi4), .val (.int vi7), .val (.int vi10), .unset, .unset, .unset, .unset, .unset, .unset, .unset] [(.int (vi12.toUInt32.toUInt16.toUInt32.toInt32))]))
  refine own_go (fun t_ k => XS.istore X11.here hx rfl (hb hby at_50) rfl (l' := #[.val (.int p1), .val (.int p2), .val (.int p3), .val (.int p4), .val (.int vi1), .val (.int vi2), .val (.int vi3), .val (.int vi4), .val (.int vi7), .val (.int vi10), .val (.int (vi12.toUInt32.toUInt16.toUInt32.toInt32)), .unset, .unset, .unset, .unset, .unset, .unset]) rfl k) ?_
  show WP p e below _ (T11.setTop (mkF m 52 #[.val (.int p1), .val (.int p2), .val (.int p3), .val (.int p4), .val (.int vi1), .val (.int vi2), .val (.int vi3), .val (.int vi4), .val (.int vi7), .val (.int vi10), .val (.int (vi12.toUInt32.toUInt16.toUInt32.toInt32)), .unset, .unset, .unset, .unset, .unset, .unset] []))
  generalize he13 : (vi12.toUInt32.toUInt16.toUInt32.toInt32) = vi13
  show WP p e below _ (T11.setTop (mkF m 52 #[.val (.int p1), .val (.int p2), .val (.int p3), .val (.int p4), .val (.int vi1), .val (.int vi2), .val (.int vi3), .val (.int vi4), .val (.int vi7), .val (.int vi10), .val (.int vi13), .unset, .unset, .unset, .unset, .unset, .unset] []))
  refine own_go (fun t_ k => XS.iload X11.here hx rfl (hb hby at_52) rfl k) ?_
  show WP p e below _ (T11.setTop (mkF m 54 #[.val (.int p1), .val (.int p2), .val (.int p3), .val (.int p4), .val (.int vi1), .val (.int vi2), .val (.int vi3), .val (.int vi4), .val (.int vi7), .val (.int vi10), .val (.int vi13), .unset, .unset, .unset, .unset, .unset, .unset] [(.int vi3)]))
  refine own_go (fun t_ k => XS.iload X11.here hx rfl (hb hby at_54) rfl k) ?_
  show WP p e below _ (T11.setTop (mkF m 56 #[.val (.int p1), .val (.int p2), .val (.int p3), .val (.int p4), .val (.int vi1), .val (.int vi2), .val (.int vi3), .val (.int vi4), .val (.int vi7), .val (.int vi10), .val (.int vi13), .unset, .unset, .unset, .unset, .unset, .unset] [(.int vi4), (.int vi3)]))
  obtain ⟨_, _, ⟨T14, L14, k14, n14⟩, -, X14, ⟨Lc14, hQ14, l14, y14, z14⟩, st14⟩ := Jvm.LawKit.callS X11 hx (y := (⟨"java/lang/Math", "max", "(II)I"⟩ : MethodName)) hown (mvT hZ (hw _ (List.mem_of_getElem? (i := 4) rfl))) (mvT hZ (hw _ (List.mem_of_getElem? (i := 5) rfl))) (mvT hZ (hw _ (List.mem_of_getElem? (i := 2) rfl))) (mvT hZ (hw _ (List.mem_of_getElem? (i := 6) rfl))) (by decide) (backOf (W := 0) (rm2 l Z a0 hw [] vi3 vi4 h0 n0) hZ (hw _ (List.mem_of_getElem? (i := 6) rfl)) (hw _ (List.mem_of_getElem? (i := 2) rfl)) (by decide) (by decide)) (g := (mkF m 56 #[.val (.int p1), .val (.int p2), .val (.int p3), .val (.int p4), .val (.int vi1), .val (.int vi2), .val (.int vi3), .val (.int vi4), .val (.int vi7), .val (.int vi10), .val (.int vi13), .unset, .unset, .unset, .unset, .unset, .unset] [(.int vi4), (.int vi3)])) rfl (by rw [hml]; rfl) (argsL := [(.int vi3), (.int vi4)]) (rest := []) (lenOf pd_0 rfl) rfl (by show 2 * 0 + _ ≤ _; exact Nat.le_of_eq rfl) (hb hby at_56) (fun _ _ => ⟨rfl, e11, (by decide : 0 + 0 ≤ _), (by decide : 0 + 0 ≤ _)⟩)
  dsimp only [Pt.U, Pt.locs, Pt.cells, Pt.slots] at X14 l14 y14 z14 st14 hQ14
  subst l14 y14 z14
  obtain ⟨rfl, N14q, e14⟩ := hQ14
  have N14 := Fr.app N11 N14q
  replace X14 : Stand p l e room_1 s m _ below meth c T14 _ 0 0 := X14
  refine own_go st14 ?_
  show WP p e below _ (T14.setTop (mkF m 59 #[.val (.int p1), .val (.int p2), .val (.int p3), .val (.int p4), .val (.int vi1), .val (.int vi2), .val (.int vi3), .val (.int vi4), .val (.int vi7), .val (.int vi10), .val (.int vi13), .unset, .unset, .unset, .unset, .unset, .unset] [(.int (f2 vi3 vi4))]))
  generalize he15 : (f2 vi3 vi4) = vi15
  show WP p e below _ (T14.setTop (mkF m 59 #[.val (.int p1), .val (.int p2), .val (.int p3), .val (.int p4), .val (.int vi1), .val (.int vi2), .val (.int vi3), .val (.int vi4), .val (.int vi7), .val (.int vi10), .val (.int vi13), .unset, .unset, .unset, .unset, .unset, .unset] [(.int vi15)]))
  refine own_go (fun t_ k => XS.i2c X14.here hx rfl (hb hby at_59) rfl k) ?_
  show WP p e below _ (T14.setTop (mkF m 60 #[.val (.int p1), .val (.int p2), .val (.int p3), .val (.int p4), .val (.int vi1), .val (.int vi2), .val (.int vi3), .val (.int vi4), .val (.int vi7), .val (.int vi10), .val (.int vi13), .unset, .unset, .unset, .unset, .unset, .unset] [(.int (vi15.toUInt32.toUInt16.toUInt32.toInt32))]))
  refine own_go (fun t_ k => XS.istore X14.here hx rfl (hb hby at_60) rfl (l' := #[.val (.int p1), .val (.int p2), .val (.int p3), .val (.int p4), .val (.int vi1), .val (.int vi2), .val (.int vi3), .val (.int vi4), .val (.int vi7), .val (.int vi10), .val (.int vi13), .val (.int (vi15.toUInt32.toUInt16.toUInt32.toInt32)), .unset, .unset, .unset, .unset, .unset]) rfl k) ?_
  show WP p e below _ (T14.setTop (mkF m 62 #[.val (.int p1), .val (.int p2), .val (.int p3), .val (.int p4), .val (.int vi1), .val (.int vi2), .val (.int vi3), .val (.int vi4), .val (.int vi7), .val (.int vi10), .val (.int vi13), .val (.int (vi15.toUInt32.toUInt16.toUInt32.toInt32)), .unset, .unset, .unset, .unset, .unset] []))
  generalize he16 : (vi15.toUInt32.toUInt16.toUInt32.toInt32) = vi16
  show WP p e below _ (T14.setTop (mkF m 62 #[.val (.int p1), .val (.int p2), .val (.int p3), .val (.int p4), .val (.int vi1), .val (.int vi2), .val (.int vi3), .val (.int vi4), .val (.int vi7), .val (.int vi10), .val (.int vi13), .val (.int vi16), .unset, .unset, .unset, .unset, .unset] []))
  refine own_go (fun t_ k => XS.iconst X14.here hx rfl (hb hby at_62) k) ?_
  show WP p e below _ (T14.setTop (mkF m 63 #[.val (.int p1), .val (.int p2), .val (.int p3), .val (.int p4), .val (.int vi1), .val (.int vi2), .val (.int vi3), .val (.int vi4), .val (.int vi7), .val (.int vi10), .val (.int vi13), .val (.int vi16), .unset, .unset, .unset, .unset, .unset] [(.int (1 : Int32))]))
  refine own_go (fun t_ k => XS.iloadN X14.here hx rfl (hb hby at_63) rfl k) ?_
  show WP p e below _ (T14.setTop (mkF m 64 #[.val (.int p1), .val (.int p2), .val (.int p3), .val (.int p4), .val (.int vi1), .val (.int vi2), .val (.int vi3), .val (.int vi4), .val (.int vi7), .val (.int vi10), .val (.int vi13), .val (.int vi16), .unset, .unset, .unset, .unset, .unset] [(.int p2), (.int (1 : Int32))]))
  refine own_go (fun t_ k => X14.ldcInt hx hown (mvT hZ (hw _ (List.mem_of_getElem? (i := 7) rfl))) (g := (mkF m 64 #[.val (.int p1), .val (.int p2), .val (.int p3), .val (.int p4), .val (.int vi1), .val (.int vi2), .val (.int vi3), .val (.int vi4), .val (.int vi7), .val (.int vi10), .val (.int vi13), .val (.int vi16), .unset, .unset, .unset, .unset, .unset] [(.int p2), (.int (1 : Int32))])) rfl (hb hby at_64) _ k) ?_
  show WP p e below _ (T14.setTop (mkF m 66 #[.val (.int p1), .val (.int p2), .val (.int p3), .val (.int p4), .val (.int vi1), .val (.int vi2), .val (.int vi3), .val (.int vi4), .val (.int vi7), .val (.int vi10), .val (.int vi13), .val (.int vi16), .unset, .unset, .unset, .unset, .unset] [(.int (2147483647 : Int32)), (.int p2), (.int (1 : Int32))]))
  refine own_go (fun t_ k => XS.iand X14.here hx rfl (hb hby at_66) rfl k) ?_
  show WP p e below _ (T14.setTop (mkF m 67 #[.val (.int p1), .val (.int p2), .val (.int p3), .val (.int p4), .val (.int vi1), .val (.int vi2), .val (.int vi3), .val (.int vi4), .val (.int vi7), .val (.int vi10), .val (.int vi13), .val (.int vi16), .unset, .unset, .unset, .unset, .unset] [(.int (p2 &&& (2147483647 : Int32))), (.int (1 : Int32))]))
  obtain ⟨_, _, ⟨T17, L17, k17, n17⟩, -, X17, ⟨Lc17, hQ17, l17, y17, z17⟩, st17⟩ := Jvm.LawKit.callS X14 hx (y := (⟨"java/lang/Math", "max", "(II)I"⟩ : MethodName)) hown (mvT hZ (hw _ (List.mem_of_getElem? (i := 4) rfl))) (mvT hZ (hw _ (List.mem_of_getElem? (i := 5) rfl))) (mvT hZ (hw _ (List.mem_of_getElem? (i := 2) rfl))) (mvT hZ (hw _ (List.mem_of_getElem? (i := 6) rfl))) (by decide) (backOf (W := 0) (rm2 l Z a0 hw [] (1 : Int32) (p2 &&& (2147483647 : Int32)) h0 n0) hZ (hw _ (List.mem_of_getElem? (i := 6) rfl)) (hw _ (List.mem_of_getElem? (i := 2) rfl)) (by decide) (by decide)) (g := (mkF m 67 #[.val (.int p1), .val (.int p2), .val (.int p3), .val (.int p4), .val (.int vi1), .val (.int vi2), .val (.int vi3), .val (.int vi4), .val (.int vi7), .val (.int vi10), .val (.int vi13), .val (.int vi16), .unset, .unset, .unset, .unset, .unset] [(.int (p2 &&& (2147483647 : Int32))), (.int (1 : Int32))])) rfl (by rw [hml]; rfl) (argsL := [(.int (1 : Int32)), (.int (p2 &&& (2147483647 : Int32)))]) (rest := []) (lenOf pd_0 rfl) rfl (by show 2 * 0 + _ ≤ _; exact Nat.le_of_eq rfl) (hb hby at_67) (fun _ _ => ⟨rfl, e14, (by decide : 0 + 0 ≤ _), (by decide : 0 + 0 ≤ _)⟩)
  dsimp only [Pt.U, Pt.locs, Pt.cells, Pt.slots] at X17 l17 y17 z17 st17 hQ17
  subst l17 y17 z17
  obtain ⟨rfl, N17q, e17⟩ := hQ17
  have N17 := Fr.app N14 N17q
  replace X17 : Stand p l e room_1 s m _ below meth c T17 _ 0 0 := X17
  refine own_go st17 ?_
  show WP p e below _ (T17.setTop (mkF m 70 #[.val (.int p1), .val (.int p2), .val (.int p3), .val (.int p4), .val (.int vi1), .val (.int vi2), .val (.int vi3), .val (.int vi4), .val (.int vi7), .val (.int vi10), .val (.int vi13), .val (.int vi16), .unset, .unset, .unset, .unset, .unset] [(.int (f2 (1 : Int32) (p2 &&& (2147483647 : Int32))))]))
  generalize he18 : (f2 (1 : Int32) (p2 &&& (2147483647 : Int32))) = vi18
  show WP p e below _ (T17.setTop (mkF m 70 #[.val (.int p1), .val (.int p2), .val (.int p3), .val (.int p4), .val (.int vi1), .val (.int vi2), .val (.int vi3), .val (.int vi4), .val (.int vi7), .val (.int vi10), .val (.int vi13), .val (.int vi16), .unset, .unset, .unset, .unset, .unset] [(.int vi18)]))
  refine own_go (fun t_ k => XS.istore X17.here hx rfl (hb hby at_70) rfl (l' := #[.val (.int p1), .val (.int p2), .val (.int p3), .val (.int p4), .val (.int vi1), .val (.int vi2), .val (.int vi3), .val (.int vi4), .val (.int vi7), .val (.int vi10), .val (.int vi13), .val (.int vi16), .val (.int vi18), .unset, .unset, .unset, .unset]) rfl k) ?_
  show WP p e below _ (T17.setTop (mkF m 72 #[.val (.int p1), .val (.int p2), .val (.int p3), .val (.int p4), .val (.int vi1), .val (.int vi2), .val (.int vi3), .val (.int vi4), .val (.int vi7), .val (.int vi10), .val (.int vi13), .val (.int vi16), .val (.int vi18), .unset, .unset, .unset, .unset] []))
  refine own_go (fun t_ k => XS.iconst X17.here hx rfl (hb hby at_72) k) ?_
  show WP p e below _ (T17.setTop (mkF m 73 #[.val (.int p1), .val (.int p2), .val (.int p3), .val (.int p4), .val (.int vi1), .val (.int vi2), .val (.int vi3), .val (.int vi4), .val (.int vi7), .val (.int vi10), .val (.int vi13), .val (.int vi16), .val (.int vi18), .unset, .unset, .unset, .unset] [(.int (1 : Int32))]))
  refine own_go (fun t_ k => XS.iloadN X17.here hx rfl (hb hby at_73) rfl k) ?_
  show WP p e below _ (T17.setTop (mkF m 74 #[.val (.int p1), .val (.int p2), .val (.int p3), .val (.int p4), .val (.int vi1), .val (.int vi2), .val (.int vi3), .val (.int vi4), .val (.int vi7), .val (.int vi10), .val (.int vi13), .val (.int vi16), .val (.int vi18), .unset, .unset, .unset, .unset] [(.int p4), (.int (1 : Int32))]))
  refine own_go (fun t_ k => X17.ldcInt hx hown (mvT hZ (hw _ (List.mem_of_getElem? (i := 7) rfl))) (g := (mkF m 74 #[.val (.int p1), .val (.int p2), .val (.int p3), .val (.int p4), .val (.int vi1), .val (.int vi2), .val (.int vi3), .val (.int vi4), .val (.int vi7), .val (.int vi10), .val (.int vi13), .val (.int vi16), .val (.int vi18), .unset, .unset, .unset, .unset] [(.int p4), (.int (1 : Int32))])) rfl (hb hby at_74) _ k) ?_
  show WP p e below _ (T17.setTop (mkF m 76 #[.val (.int p1), .val (.int p2), .val (.int p3), .val (.int p4), .val (.int vi1), .val (.int vi2), .val (.int vi3), .val (.int vi4), .val (.int vi7), .val (.int vi10), .val (.int vi13), .val (.int vi16), .val (.int vi18), .unset, .unset, .unset, .unset] [(.int (2147483647 : Int32)), (.int p4), (.int (1 : Int32))]))
  refine own_go (fun t_ k => XS.iand X17.here hx rfl (hb hby at_76) rfl k) ?_
  show WP p e below _ (T17.setTop (mkF m 77 #[.val (.int p1), .val (.int p2), .val (.int p3), .val (.int p4), .val (.int vi1), .val (.int vi2), .val (.int vi3), .val (.int vi4), .val (.int vi7), .val (.int vi10), .val (.int vi13), .val (.int vi16), .val (.int vi18), .unset, .unset, .unset, .unset] [(.int (p4 &&& (2147483647 : Int32))), (.int (1 : Int32))]))
  obtain ⟨_, _, ⟨T19, L19, k19, n19⟩, -, X19, ⟨Lc19, hQ19, l19, y19, z19⟩, st19⟩ := Jvm.LawKit.callS X17 hx (y := (⟨"java/lang/Math", "max", "(II)I"⟩ : MethodName)) hown (mvT hZ (hw _ (List.mem_of_getElem? (i := 4) rfl))) (mvT hZ (hw _ (List.mem_of_getElem? (i := 5) rfl))) (mvT hZ (hw _ (List.mem_of_getElem? (i := 2) rfl))) (mvT hZ (hw _ (List.mem_of_getElem? (i := 6) rfl))) (by decide) (backOf (W := 0) (rm2 l Z a0 hw [] (1 : Int32) (p4 &&& (2147483647 : Int32)) h0 n0) hZ (hw _ (List.mem_of_getElem? (i := 6) rfl)) (hw _ (List.mem_of_getElem? (i := 2) rfl)) (by decide) (by decide)) (g := (mkF m 77 #[.val (.int p1), .val (.int p2), .val (.int p3), .val (.int p4), .val (.int vi1), .val (.int vi2), .val (.int vi3), .val (.int vi4), .val (.int vi7), .val (.int vi10), .val (.int vi13), .val (.int vi16), .val (.int vi18), .unset, .unset, .unset, .unset] [(.int (p4 &&& (2147483647 : Int32))), (.int (1 : Int32))])) rfl (by rw [hml]; rfl) (argsL := [(.int (1 : Int32)), (.int (p4 &&& (2147483647 : Int32)))]) (rest := []) (lenOf pd_0 rfl) rfl (by show 2 * 0 + _ ≤ _; exact Nat.le_of_eq rfl) (hb hby at_77) (fun _ _ => ⟨rfl, e17, (by decide : 0 + 0 ≤ _), (by decide : 0 + 0 ≤ _)⟩)
  dsimp only [Pt.U, Pt.locs, Pt.cells, Pt.slots] at X19 l19 y19 z19 st19 hQ19
  subst l19 y19 z19
  obtain ⟨rfl, N19q, e19⟩ := hQ19
  have N19 := Fr.app N17 N19q
  replace X19 : Stand p l e room_1 s m _ below meth c T19 _ 0 0 := X19
  refine own_go st19 ?_
  show WP p e below _ (T19.setTop (mkF m 80 #[.val (.int p1), .val (.int p2), .val (.int p3), .val (.int p4), .val (.int vi1), .val (.int vi2), .val (.int vi3), .val (.int vi4), .val (.int vi7), .val (.int vi10), .val (.int vi13), .val (.int vi16), .val (.int vi18), .unset, .unset, .unset, .unset] [(.int (f2 (1 : Int32) (p4 &&& (2147483647 : Int32))))]))
  generalize he20 : (f2 (1 : Int32) (p4 &&& (2147483647 : Int32))) = vi20
  show WP p e below _ (T19.setTop (mkF m 80 #[.val (.int p1), .val (.int p2), .val (.int p3), .val (.int p4), .val (.int vi1), .val (.int vi2), .val (.int vi3), .val (.int vi4), .val (.int vi7), .val (.int vi10), .val (.int vi13), .val (.int vi16), .val (.int vi18), .unset, .unset, .unset, .unset] [(.int vi20)]))
  refine own_go (fun t_ k => XS.istore X19.here hx rfl (hb hby at_80) rfl (l' := #[.val (.int p1), .val (.int p2), .val (.int p3), .val (.int p4), .val (.int vi1), .val (.int vi2), .val (.int vi3), .val (.int vi4), .val (.int vi7), .val (.int vi10), .val (.int vi13), .val (.int vi16), .val (.int vi18), .val (.int vi20), .unset, .unset, .unset]) rfl k) ?_
  show WP p e below _ (T19.setTop (mkF m 82 #[.val (.int p1), .val (.int p2), .val (.int p3), .val (.int p4), .val (.int vi1), .val (.int vi2), .val (.int vi3), .val (.int vi4), .val (.int vi7), .val (.int vi10), .val (.int vi13), .val (.int vi16), .val (.int vi18), .val (.int vi20), .unset, .unset, .unset] []))
  refine own_go (fun t_ k => XS.iload X19.here hx rfl (hb hby at_82) rfl k) ?_
  show WP p e below _ (T19.setTop (mkF m 84 #[.val (.int p1), .val (.int p2), .val (.int p3), .val (.int p4), .val (.int vi1), .val (.int vi2), .val (.int vi3), .val (.int vi4), .val (.int vi7), .val (.int vi10), .val (.int vi13), .val (.int vi16), .val (.int vi18), .val (.int vi20), .unset, .unset, .unset] [(.int vi7)]))
  refine own_go (fun t_ k => XS.iload X19.here hx rfl (hb hby at_84) rfl k) ?_
  show WP p e below _ (T19.setTop (mkF m 86 #[.val (.int p1), .val (.int p2), .val (.int p3), .val (.int p4), .val (.int vi1), .val (.int vi2), .val (.int vi3), .val (.int vi4), .val (.int vi7), .val (.int vi10), .val (.int vi13), .val (.int vi16), .val (.int vi18), .val (.int vi20), .unset, .unset, .unset] [(.int vi10), (.int vi7)]))
  refine own_go (fun t_ k => XS.iload X19.here hx rfl (hb hby at_86) rfl k) ?_
  show WP p e below _ (T19.setTop (mkF m 88 #[.val (.int p1), .val (.int p2), .val (.int p3), .val (.int p4), .val (.int vi1), .val (.int vi2), .val (.int vi3), .val (.int vi4), .val (.int vi7), .val (.int vi10), .val (.int vi13), .val (.int vi16), .val (.int vi18), .val (.int vi20), .unset, .unset, .unset] [(.int vi18), (.int vi10), (.int vi7)]))
  refine own_go (fun t_ k => XS.iload X19.here hx rfl (hb hby at_88) rfl k) ?_
  show WP p e below _ (T19.setTop (mkF m 90 #[.val (.int p1), .val (.int p2), .val (.int p3), .val (.int p4), .val (.int vi1), .val (.int vi2), .val (.int vi3), .val (.int vi4), .val (.int vi7), .val (.int vi10), .val (.int vi13), .val (.int vi16), .val (.int vi18), .val (.int vi20), .unset, .unset, .unset] [(.int vi13), (.int vi18), (.int vi10), (.int vi7)]))
  refine own_go (fun t_ k => XS.iload X19.here hx rfl (hb hby at_90) rfl k) ?_
  show WP p e below _ (T19.setTop (mkF m 92 #[.val (.int p1), .val (.int p2), .val (.int p3), .val (.int p4), .val (.int vi1), .val (.int vi2), .val (.int vi3), .val (.int vi4), .val (.int vi7), .val (.int vi10), .val (.int vi13), .val (.int vi16), .val (.int vi18), .val (.int vi20), .unset, .unset, .unset] [(.int vi16), (.int vi13), (.int vi18), (.int vi10), (.int vi7)]))
  refine own_go (fun t_ k => XS.iload X19.here hx rfl (hb hby at_92) rfl k) ?_
  show WP p e below _ (T19.setTop (mkF m 94 #[.val (.int p1), .val (.int p2), .val (.int p3), .val (.int p4), .val (.int vi1), .val (.int vi2), .val (.int vi3), .val (.int vi4), .val (.int vi7), .val (.int vi10), .val (.int vi13), .val (.int vi16), .val (.int vi18), .val (.int vi20), .unset, .unset, .unset] [(.int vi20), (.int vi16), (.int vi13), (.int vi18), (.int vi10), (.int vi7)]))
  obtain ⟨_, _, ⟨T21, L21, k21, n21⟩, -, X21, ⟨Lc21, hQ21, l21, y21, z21⟩, st21⟩ := Jvm.LawKit.callS X19 hx (y := (⟨"com/example/cairn/cairn/ArrayMeetingWayPinLaw", "expected", "(CCICCI)I"⟩ : MethodName)) hown (mvT hZ (hw _ (List.mem_of_getElem? (i := 8) rfl))) (mvT hZ (hw _ (List.mem_of_getElem? (i := 9) rfl))) (mvT hZ (hw _ (List.mem_of_getElem? (i := 10) rfl))) (mvT hZ (hw _ (List.mem_of_getElem? (i := 11) rfl))) (by decide) (backOf (W := 0) (rm3 l Z a0 hw [] vi7 vi10 vi18 vi13 vi16 vi20 h0 n0) hZ (hw _ (List.mem_of_getElem? (i := 11) rfl)) (hw _ (List.mem_of_getElem? (i := 10) rfl)) (by decide) (by decide)) (g := (mkF m 94 #[.val (.int p1), .val (.int p2), .val (.int p3), .val (.int p4), .val (.int vi1), .val (.int vi2), .val (.int vi3), .val (.int vi4), .val (.int vi7), .val (.int vi10), .val (.int vi13), .val (.int vi16), .val (.int vi18), .val (.int vi20), .unset, .unset, .unset] [(.int vi20), (.int vi16), (.int vi13), (.int vi18), (.int vi10), (.int vi7)])) rfl (by rw [hml]; rfl) (argsL := [(.int vi7), (.int vi10), (.int vi18), (.int vi13), (.int vi16), (.int vi20)]) (rest := []) (lenOf pd_1 rfl) rfl (by show 2 * 0 + _ ≤ _; exact Nat.le_of_eq rfl) (hb hby at_94) (fun _ _ => ⟨rfl, e19, (by decide : 0 + 0 ≤ _), (by decide : 0 + 0 ≤ _)⟩)
  dsimp only [Pt.U, Pt.locs, Pt.cells, Pt.slots] at X21 l21 y21 z21 st21 hQ21
  subst l21 y21 z21
  obtain ⟨rfl, N21q, e21⟩ := hQ21
  have N21 := Fr.app N19 N21q
  replace X21 : Stand p l e room_1 s m _ below meth c T21 _ 0 0 := X21
  refine own_go st21 ?_
  show WP p e below _ (T21.setTop (mkF m 97 #[.val (.int p1), .val (.int p2), .val (.int p3), .val (.int p4), .val (.int vi1), .val (.int vi2), .val (.int vi3), .val (.int vi4), .val (.int vi7), .val (.int vi10), .val (.int vi13), .val (.int vi16), .val (.int vi18), .val (.int vi20), .unset, .unset, .unset] [(.int (f3 vi7 vi10 vi18 vi13 vi16 vi20))]))
  generalize he22 : (f3 vi7 vi10 vi18 vi13 vi16 vi20) = vi22
  show WP p e below _ (T21.setTop (mkF m 97 #[.val (.int p1), .val (.int p2), .val (.int p3), .val (.int p4), .val (.int vi1), .val (.int vi2), .val (.int vi3), .val (.int vi4), .val (.int vi7), .val (.int vi10), .val (.int vi13), .val (.int vi16), .val (.int vi18), .val (.int vi20), .unset, .unset, .unset] [(.int vi22)]))
  refine own_go (fun t_ k => XS.istore X21.here hx rfl (hb hby at_97) rfl (l' := #[.val (.int p1), .val (.int p2), .val (.int p3), .val (.int p4), .val (.int vi1), .val (.int vi2), .val (.int vi3), .val (.int vi4), .val (.int vi7), .val (.int vi10), .val (.int vi13), .val (.int vi16), .val (.int vi18), .val (.int vi20), .val (.int vi22), .unset, .unset]) rfl k) ?_
  show WP p e below _ (T21.setTop (mkF m 99 #[.val (.int p1), .val (.int p2), .val (.int p3), .val (.int p4), .val (.int vi1), .val (.int vi2), .val (.int vi3), .val (.int vi4), .val (.int vi7), .val (.int vi10), .val (.int vi13), .val (.int vi16), .val (.int vi18), .val (.int vi20), .val (.int vi22), .unset, .unset] []))
  refine own_go (fun t_ k => XS.iload X21.here hx rfl (hb hby at_99) rfl k) ?_
  show WP p e below _ (T21.setTop (mkF m 101 #[.val (.int p1), .val (.int p2), .val (.int p3), .val (.int p4), .val (.int vi1), .val (.int vi2), .val (.int vi3), .val (.int vi4), .val (.int vi7), .val (.int vi10), .val (.int vi13), .val (.int vi16), .val (.int vi18), .val (.int vi20), .val (.int vi22), .unset, .unset] [(.int vi7)]))
  refine own_go (fun t_ k => XS.iload X21.here hx rfl (hb hby at_101) rfl k) ?_
  show WP p e below _ (T21.setTop (mkF m 103 #[.val (.int p1), .val (.int p2), .val (.int p3), .val (.int p4), .val (.int vi1), .val (.int vi2), .val (.int vi3), .val (.int vi4), .val (.int vi7), .val (.int vi10), .val (.int vi13), .val (.int vi16), .val (.int vi18), .val (.int vi20), .val (.int vi22), .unset, .unset] [(.int vi10), (.int vi7)]))
  refine own_go (fun t_ k => XS.iload X21.here hx rfl (hb hby at_103) rfl k) ?_
  show WP p e below _ (T21.setTop (mkF m 105 #[.val (.int p1), .val (.int p2), .val (.int p3), .val (.int p4), .val (.int vi1), .val (.int vi2), .val (.int vi3), .val (.int vi4), .val (.int vi7), .val (.int vi10), .val (.int vi13), .val (.int vi16), .val (.int vi18), .val (.int vi20), .val (.int vi22), .unset, .unset] [(.int vi18), (.int vi10), (.int vi7)]))
  refine own_go (fun t_ k => XS.iload X21.here hx rfl (hb hby at_105) rfl k) ?_
  show WP p e below _ (T21.setTop (mkF m 107 #[.val (.int p1), .val (.int p2), .val (.int p3), .val (.int p4), .val (.int vi1), .val (.int vi2), .val (.int vi3), .val (.int vi4), .val (.int vi7), .val (.int vi10), .val (.int vi13), .val (.int vi16), .val (.int vi18), .val (.int vi20), .val (.int vi22), .unset, .unset] [(.int vi13), (.int vi18), (.int vi10), (.int vi7)]))
  refine own_go (fun t_ k => XS.iload X21.here hx rfl (hb hby at_107) rfl k) ?_
  show WP p e below _ (T21.setTop (mkF m 109 #[.val (.int p1), .val (.int p2), .val (.int p3), .val (.int p4), .val (.int vi1), .val (.int vi2), .val (.int vi3), .val (.int vi4), .val (.int vi7), .val (.int vi10), .val (.int vi13), .val (.int vi16), .val (.int vi18), .val (.int vi20), .val (.int vi22), .unset, .unset] [(.int vi16), (.int vi13), (.int vi18), (.int vi10), (.int vi7)]))
  refine own_go (fun t_ k => XS.iload X21.here hx rfl (hb hby at_109) rfl k) ?_
  show WP p e below _ (T21.setTop (mkF m 111 #[.val (.int p1), .val (.int p2), .val (.int p3), .val (.int p4), .val (.int vi1), .val (.int vi2), .val (.int vi3), .val (.int vi4), .val (.int vi7), .val (.int vi10), .val (.int vi13), .val (.int vi16), .val (.int vi18), .val (.int vi20), .val (.int vi22), .unset, .unset] [(.int vi20), (.int vi16), (.int vi13), (.int vi18), (.int vi10), (.int vi7)]))
  obtain ⟨_, _, ⟨T23, L23, k23, n23⟩, -, X23, ⟨Lc23, hQ23, l23, y23, z23⟩, st23⟩ := Jvm.LawKit.callS X21 hx (y := (⟨"com/example/cairn/cairn/ArrayMeeting", "way", "(CCICCI)I"⟩ : MethodName)) hown (mvT hZ (hw _ (List.mem_of_getElem? (i := 13) rfl))) (mvT hZ (hw _ (List.mem_of_getElem? (i := 14) rfl))) (mvT hZ (hw _ (List.mem_of_getElem? (i := 15) rfl))) (mvT hZ (hw _ (List.mem_of_getElem? (i := 16) rfl))) (by decide) (backOf (W := 0) (rm4 l Z a0 hw [] vi7 vi10 vi18 vi13 vi16 vi20 h0 n0) hZ (hw _ (List.mem_of_getElem? (i := 16) rfl)) (hw _ (List.mem_of_getElem? (i := 15) rfl)) (by decide) (by decide)) (g := (mkF m 111 #[.val (.int p1), .val (.int p2), .val (.int p3), .val (.int p4), .val (.int vi1), .val (.int vi2), .val (.int vi3), .val (.int vi4), .val (.int vi7), .val (.int vi10), .val (.int vi13), .val (.int vi16), .val (.int vi18), .val (.int vi20), .val (.int vi22), .unset, .unset] [(.int vi20), (.int vi16), (.int vi13), (.int vi18), (.int vi10), (.int vi7)])) rfl (by rw [hml]; rfl) (argsL := [(.int vi7), (.int vi10), (.int vi18), (.int vi13), (.int vi16), (.int vi20)]) (rest := []) (lenOf pd_1 rfl) rfl (by show 2 * 0 + _ ≤ _; exact Nat.le_of_eq rfl) (hb hby at_111) (fun _ _ => ⟨rfl, e21, (by decide : 0 + 0 ≤ _), (by decide : 0 + 0 ≤ _)⟩)
  dsimp only [Pt.U, Pt.locs, Pt.cells, Pt.slots] at X23 l23 y23 z23 st23 hQ23
  subst l23 y23 z23
  obtain ⟨rfl, N23q, e23⟩ := hQ23
  have N23 := Fr.app N21 N23q
  replace X23 : Stand p l e room_1 s m _ below meth c T23 _ 0 0 := X23
  refine own_go st23 ?_
  show WP p e below _ (T23.setTop (mkF m 114 #[.val (.int p1), .val (.int p2), .val (.int p3), .val (.int p4), .val (.int vi1), .val (.int vi2), .val (.int vi3), .val (.int vi4), .val (.int vi7), .val (.int vi10), .val (.int vi13), .val (.int vi16), .val (.int vi18), .val (.int vi20), .val (.int vi22), .unset, .unset] [(.int (f4 vi7 vi10 vi18 vi13 vi16 vi20))]))
  generalize he24 : (f4 vi7 vi10 vi18 vi13 vi16 vi20) = vi24
  show WP p e below _ (T23.setTop (mkF m 114 #[.val (.int p1), .val (.int p2), .val (.int p3), .val (.int p4), .val (.int vi1), .val (.int vi2), .val (.int vi3), .val (.int vi4), .val (.int vi7), .val (.int vi10), .val (.int vi13), .val (.int vi16), .val (.int vi18), .val (.int vi20), .val (.int vi22), .unset, .unset] [(.int vi24)]))
  refine own_go (fun t_ k => XS.istore X23.here hx rfl (hb hby at_114) rfl (l' := #[.val (.int p1), .val (.int p2), .val (.int p3), .val (.int p4), .val (.int vi1), .val (.int vi2), .val (.int vi3), .val (.int vi4), .val (.int vi7), .val (.int vi10), .val (.int vi13), .val (.int vi16), .val (.int vi18), .val (.int vi20), .val (.int vi22), .val (.int vi24), .unset]) rfl k) ?_
  show WP p e below _ (T23.setTop (mkF m 116 #[.val (.int p1), .val (.int p2), .val (.int p3), .val (.int p4), .val (.int vi1), .val (.int vi2), .val (.int vi3), .val (.int vi4), .val (.int vi7), .val (.int vi10), .val (.int vi13), .val (.int vi16), .val (.int vi18), .val (.int vi20), .val (.int vi22), .val (.int vi24), .unset] []))
  refine own_go (fun t_ k => XS.iload X23.here hx rfl (hb hby at_116) rfl k) ?_
  show WP p e below _ (T23.setTop (mkF m 118 #[.val (.int p1), .val (.int p2), .val (.int p3), .val (.int p4), .val (.int vi1), .val (.int vi2), .val (.int vi3), .val (.int vi4), .val (.int vi7), .val (.int vi10), .val (.int vi13), .val (.int vi16), .val (.int vi18), .val (.int vi20), .val (.int vi22), .val (.int vi24), .unset] [(.int vi13)]))
  refine own_go (fun t_ k => XS.iload X23.here hx rfl (hb hby at_118) rfl k) ?_
  show WP p e below _ (T23.setTop (mkF m 120 #[.val (.int p1), .val (.int p2), .val (.int p3), .val (.int p4), .val (.int vi1), .val (.int vi2), .val (.int vi3), .val (.int vi4), .val (.int vi7), .val (.int vi10), .val (.int vi13), .val (.int vi16), .val (.int vi18), .val (.int vi20), .val (.int vi22), .val (.int vi24), .unset] [(.int vi16), (.int vi13)]))
  refine own_go (fun t_ k => XS.iload X23.here hx rfl (hb hby at_120) rfl k) ?_
  show WP p e below _ (T23.setTop (mkF m 122 #[.val (.int p1), .val (.int p2), .val (.int p3), .val (.int p4), .val (.int vi1), .val (.int vi2), .val (.int vi3), .val (.int vi4), .val (.int vi7), .val (.int vi10), .val (.int vi13), .val (.int vi16), .val (.int vi18), .val (.int vi20), .val (.int vi22), .val (.int vi24), .unset] [(.int vi20), (.int vi16), (.int vi13)]))
  refine own_go (fun t_ k => XS.iload X23.here hx rfl (hb hby at_122) rfl k) ?_
  show WP p e below _ (T23.setTop (mkF m 124 #[.val (.int p1), .val (.int p2), .val (.int p3), .val (.int p4), .val (.int vi1), .val (.int vi2), .val (.int vi3), .val (.int vi4), .val (.int vi7), .val (.int vi10), .val (.int vi13), .val (.int vi16), .val (.int vi18), .val (.int vi20), .val (.int vi22), .val (.int vi24), .unset] [(.int vi7), (.int vi20), (.int vi16), (.int vi13)]))
  refine own_go (fun t_ k => XS.iload X23.here hx rfl (hb hby at_124) rfl k) ?_
  show WP p e below _ (T23.setTop (mkF m 126 #[.val (.int p1), .val (.int p2), .val (.int p3), .val (.int p4), .val (.int vi1), .val (.int vi2), .val (.int vi3), .val (.int vi4), .val (.int vi7), .val (.int vi10), .val (.int vi13), .val (.int vi16), .val (.int vi18), .val (.int vi20), .val (.int vi22), .val (.int vi24), .unset] [(.int vi10), (.int vi7), (.int vi20), (.int vi16), (.int vi13)]))
  refine own_go (fun t_ k => XS.iload X23.here hx rfl (hb hby at_126) rfl k) ?_
  show WP p e below _ (T23.setTop (mkF m 128 #[.val (.int p1), .val (.int p2), .val (.int p3), .val (.int p4), .val (.int vi1), .val (.int vi2), .val (.int vi3), .val (.int vi4), .val (.int vi7), .val (.int vi10), .val (.int vi13), .val (.int vi16), .val (.int vi18), .val (.int vi20), .val (.int vi22), .val (.int vi24), .unset] [(.int vi18), (.int vi10), (.int vi7), (.int vi20), (.int vi16), (.int vi13)]))
  obtain ⟨_, _, ⟨T25, L25, k25, n25⟩, -, X25, ⟨Lc25, hQ25, l25, y25, z25⟩, st25⟩ := Jvm.LawKit.callS X23 hx (y := (⟨"com/example/cairn/cairn/ArrayMeeting", "way", "(CCICCI)I"⟩ : MethodName)) hown (mvT hZ (hw _ (List.mem_of_getElem? (i := 13) rfl))) (mvT hZ (hw _ (List.mem_of_getElem? (i := 14) rfl))) (mvT hZ (hw _ (List.mem_of_getElem? (i := 15) rfl))) (mvT hZ (hw _ (List.mem_of_getElem? (i := 16) rfl))) (by decide) (backOf (W := 0) (rm4 l Z a0 hw [] vi13 vi16 vi20 vi7 vi10 vi18 h0 n0) hZ (hw _ (List.mem_of_getElem? (i := 16) rfl)) (hw _ (List.mem_of_getElem? (i := 15) rfl)) (by decide) (by decide)) (g := (mkF m 128 #[.val (.int p1), .val (.int p2), .val (.int p3), .val (.int p4), .val (.int vi1), .val (.int vi2), .val (.int vi3), .val (.int vi4), .val (.int vi7), .val (.int vi10), .val (.int vi13), .val (.int vi16), .val (.int vi18), .val (.int vi20), .val (.int vi22), .val (.int vi24), .unset] [(.int vi18), (.int vi10), (.int vi7), (.int vi20), (.int vi16), (.int vi13)])) rfl (by rw [hml]; rfl) (argsL := [(.int vi13), (.int vi16), (.int vi20), (.int vi7), (.int vi10), (.int vi18)]) (rest := []) (lenOf pd_1 rfl) rfl (by show 2 * 0 + _ ≤ _; exact Nat.le_of_eq rfl) (hb hby at_128) (fun _ _ => ⟨rfl, e23, (by decide : 0 + 0 ≤ _), (by decide : 0 + 0 ≤ _)⟩)
  dsimp only [Pt.U, Pt.locs, Pt.cells, Pt.slots] at X25 l25 y25 z25 st25 hQ25
  subst l25 y25 z25
  obtain ⟨rfl, N25q, e25⟩ := hQ25
  have N25 := Fr.app N23 N25q
  replace X25 : Stand p l e room_1 s m _ below meth c T25 _ 0 0 := X25
  refine own_go st25 ?_
  show WP p e below _ (T25.setTop (mkF m 131 #[.val (.int p1), .val (.int p2), .val (.int p3), .val (.int p4), .val (.int vi1), .val (.int vi2), .val (.int vi3), .val (.int vi4), .val (.int vi7), .val (.int vi10), .val (.int vi13), .val (.int vi16), .val (.int vi18), .val (.int vi20), .val (.int vi22), .val (.int vi24), .unset] [(.int (f4 vi13 vi16 vi20 vi7 vi10 vi18))]))
  generalize he26 : (f4 vi13 vi16 vi20 vi7 vi10 vi18) = vi26
  show WP p e below _ (T25.setTop (mkF m 131 #[.val (.int p1), .val (.int p2), .val (.int p3), .val (.int p4), .val (.int vi1), .val (.int vi2), .val (.int vi3), .val (.int vi4), .val (.int vi7), .val (.int vi10), .val (.int vi13), .val (.int vi16), .val (.int vi18), .val (.int vi20), .val (.int vi22), .val (.int vi24), .unset] [(.int vi26)]))
  refine own_go (fun t_ k => XS.istore X25.here hx rfl (hb hby at_131) rfl (l' := #[.val (.int p1), .val (.int p2), .val (.int p3), .val (.int p4), .val (.int vi1), .val (.int vi2), .val (.int vi3), .val (.int vi4), .val (.int vi7), .val (.int vi10), .val (.int vi13), .val (.int vi16), .val (.int vi18), .val (.int vi20), .val (.int vi22), .val (.int vi24), .val (.int vi26)]) rfl k) ?_
  show WP p e below _ (T25.setTop (mkF m 133 #[.val (.int p1), .val (.int p2), .val (.int p3), .val (.int p4), .val (.int vi1), .val (.int vi2), .val (.int vi3), .val (.int vi4), .val (.int vi7), .val (.int vi10), .val (.int vi13), .val (.int vi16), .val (.int vi18), .val (.int vi20), .val (.int vi22), .val (.int vi24), .val (.int vi26)] []))
  refine own_go (fun t_ k => XS.iload X25.here hx rfl (hb hby at_133) rfl k) ?_
  show WP p e below _ (T25.setTop (mkF m 135 #[.val (.int p1), .val (.int p2), .val (.int p3), .val (.int p4), .val (.int vi1), .val (.int vi2), .val (.int vi3), .val (.int vi4), .val (.int vi7), .val (.int vi10), .val (.int vi13), .val (.int vi16), .val (.int vi18), .val (.int vi20), .val (.int vi22), .val (.int vi24), .val (.int vi26)] [(.int vi24)]))
  refine own_go (fun t_ k => XS.iload X25.here hx rfl (hb hby at_135) rfl k) ?_
  show WP p e below _ (T25.setTop (mkF m 137 #[.val (.int p1), .val (.int p2), .val (.int p3), .val (.int p4), .val (.int vi1), .val (.int vi2), .val (.int vi3), .val (.int vi4), .val (.int vi7), .val (.int vi10), .val (.int vi13), .val (.int vi16), .val (.int vi18), .val (.int vi20), .val (.int vi22), .val (.int vi24), .val (.int vi26)] [(.int vi22), (.int vi24)]))
  have J29 : ∀ (T29 : State) (ls29 : List Loc) (X29 : Stand p l e room_1 s m #[(.int p1), (.int p2), (.int p3), (.int p4)] below meth c T29 ls29 0 0) (N29 : Fr n0 ls29) (e29 : T29.heap = h0) (z28_S0 : Int32) (hz28_S0 : z28_S0 = (if vi24 = vi22 then (if vi26 = (f5 vi22) then (1 : Int32) else (0 : Int32)) else (0 : Int32))), WP p e below (GG (Q0 n0) s room_1.cells room_1.slots) (T29.setTop (mkF m 155 #[.val (.int p1), .val (.int p2), .val (.int p3), .val (.int p4), .val (.int vi1), .val (.int vi2), .val (.int vi3), .val (.int vi4), .val (.int vi7), .val (.int vi10), .val (.int vi13), .val (.int vi16), .val (.int vi18), .val (.int vi20), .val (.int vi22), .val (.int vi24), .val (.int vi26)] [(.int z28_S0)])) := by
    intro T29 ls29 X29 N29 e29 z28_S0 hz28_S0
    show WP p e below _ (T29.setTop (mkF m 155 #[.val (.int p1), .val (.int p2), .val (.int p3), .val (.int p4), .val (.int vi1), .val (.int vi2), .val (.int vi3), .val (.int vi4), .val (.int vi7), .val (.int vi10), .val (.int vi13), .val (.int vi16), .val (.int vi18), .val (.int vi20), .val (.int vi22), .val (.int vi24), .val (.int vi26)] [(.int z28_S0)]))
    exact own_retZ X29 hx Bd.notSynchronized Bd.returns (hb hby at_155) (by rw [hz28_S0]; (repeat' split); all_goals first | exact Or.inl rfl | exact Or.inr rfl) (show Q0 n0 _ _ _ from ⟨by rw [own_law_1 he1 he2 he3 he4 he6 he7 he9 he10 he12 he13 he15 he16 he18 he20 he22 he24 he26 hz28_S0], N29⟩) (by decide) (by decide)
  by_cases hc137_27 : vi24 = vi22
  · refine own_go (fun t_ k => XS.icmpNo X25.here hx rfl (hb hby at_137) rfl (teq hc137_27).2 k) ?_
    show WP p e below _ (T25.setTop (mkF m 140 #[.val (.int p1), .val (.int p2), .val (.int p3), .val (.int p4), .val (.int vi1), .val (.int vi2), .val (.int vi3), .val (.int vi4), .val (.int vi7), .val (.int vi10), .val (.int vi13), .val (.int vi16), .val (.int vi18), .val (.int vi20), .val (.int vi22), .val (.int vi24), .val (.int vi26)] []))
    refine own_go (fun t_ k => XS.iload X25.here hx rfl (hb hby at_140) rfl k) ?_
    show WP p e below _ (T25.setTop (mkF m 142 #[.val (.int p1), .val (.int p2), .val (.int p3), .val (.int p4), .val (.int vi1), .val (.int vi2), .val (.int vi3), .val (.int vi4), .val (.int vi7), .val (.int vi10), .val (.int vi13), .val (.int vi16), .val (.int vi18), .val (.int vi20), .val (.int vi22), .val (.int vi24), .val (.int vi26)] [(.int vi26)]))
    refine own_go (fun t_ k => XS.iload X25.here hx rfl (hb hby at_142) rfl k) ?_
    show WP p e below _ (T25.setTop (mkF m 144 #[.val (.int p1), .val (.int p2), .val (.int p3), .val (.int p4), .val (.int vi1), .val (.int vi2), .val (.int vi3), .val (.int vi4), .val (.int vi7), .val (.int vi10), .val (.int vi13), .val (.int vi16), .val (.int vi18), .val (.int vi20), .val (.int vi22), .val (.int vi24), .val (.int vi26)] [(.int vi22), (.int vi26)]))
    obtain ⟨_, _, ⟨T30, L30, k30, n30⟩, -, X30, ⟨Lc30, hQ30, l30, y30, z30⟩, st30⟩ := Jvm.LawKit.callS X25 hx (y := (⟨"com/example/cairn/cairn/ArrayMeetingWayPinLaw", "mirror", "(I)I"⟩ : MethodName)) hown (mvT hZ (hw _ (List.mem_of_getElem? (i := 18) rfl))) (mvT hZ (hw _ (List.mem_of_getElem? (i := 19) rfl))) (mvT hZ (hw _ (List.mem_of_getElem? (i := 10) rfl))) (mvT hZ (hw _ (List.mem_of_getElem? (i := 20) rfl))) (by decide) (backOf (W := 1) (rm5 l Z a0 hw [] vi22 h0 n0) hZ (hw _ (List.mem_of_getElem? (i := 20) rfl)) (hw _ (List.mem_of_getElem? (i := 10) rfl)) (by decide) (by decide)) (g := (mkF m 144 #[.val (.int p1), .val (.int p2), .val (.int p3), .val (.int p4), .val (.int vi1), .val (.int vi2), .val (.int vi3), .val (.int vi4), .val (.int vi7), .val (.int vi10), .val (.int vi13), .val (.int vi16), .val (.int vi18), .val (.int vi20), .val (.int vi22), .val (.int vi24), .val (.int vi26)] [(.int vi22), (.int vi26)])) rfl (by rw [hml]; rfl) (argsL := [(.int vi22)]) (rest := [(.int vi26)]) (lenOf pd_2 rfl) rfl (by show 2 * 0 + _ ≤ _; exact Nat.le_of_eq rfl) (hb hby at_144) (fun _ _ => ⟨rfl, e25, (by decide : 0 + 0 ≤ _), (by decide : 0 + 0 ≤ _)⟩)
    dsimp only [Pt.U, Pt.locs, Pt.cells, Pt.slots] at X30 l30 y30 z30 st30 hQ30
    subst l30 y30 z30
    obtain ⟨rfl, N30q, e30⟩ := hQ30
    have N30 := Fr.app N25 N30q
    replace X30 : Stand p l e room_1 s m _ below meth c T30 _ 0 0 := X30
    refine own_go st30 ?_
    show WP p e below _ (T30.setTop (mkF m 147 #[.val (.int p1), .val (.int p2), .val (.int p3), .val (.int p4), .val (.int vi1), .val (.int vi2), .val (.int vi3), .val (.int vi4), .val (.int vi7), .val (.int vi10), .val (.int vi13), .val (.int vi16), .val (.int vi18), .val (.int vi20), .val (.int vi22), .val (.int vi24), .val (.int vi26)] [(.int (f5 vi22)), (.int vi26)]))
    by_cases hc147_31 : vi26 = (f5 vi22)
    · refine own_go (fun t_ k => XS.icmpNo X30.here hx rfl (hb hby at_147) rfl (teq hc147_31).2 k) ?_
      show WP p e below _ (T30.setTop (mkF m 150 #[.val (.int p1), .val (.int p2), .val (.int p3), .val (.int p4), .val (.int vi1), .val (.int vi2), .val (.int vi3), .val (.int vi4), .val (.int vi7), .val (.int vi10), .val (.int vi13), .val (.int vi16), .val (.int vi18), .val (.int vi20), .val (.int vi22), .val (.int vi24), .val (.int vi26)] []))
      refine own_go (fun t_ k => XS.iconst X30.here hx rfl (hb hby at_150) k) ?_
      show WP p e below _ (T30.setTop (mkF m 151 #[.val (.int p1), .val (.int p2), .val (.int p3), .val (.int p4), .val (.int vi1), .val (.int vi2), .val (.int vi3), .val (.int vi4), .val (.int vi7), .val (.int vi10), .val (.int vi13), .val (.int vi16), .val (.int vi18), .val (.int vi20), .val (.int vi22), .val (.int vi24), .val (.int vi26)] [(.int (1 : Int32))]))
      refine own_go (fun t_ k => XS.goto X30.here hx rfl (pc0 := 151) (pc' := 155) rfl (hb hby at_151) (by decide) (by decide) k) ?_
      show WP p e below _ (T30.setTop (mkF m 155 #[.val (.int p1), .val (.int p2), .val (.int p3), .val (.int p4), .val (.int vi1), .val (.int vi2), .val (.int vi3), .val (.int vi4), .val (.int vi7), .val (.int vi10), .val (.int vi13), .val (.int vi16), .val (.int vi18), .val (.int vi20), .val (.int vi22), .val (.int vi24), .val (.int vi26)] [(.int (1 : Int32))]))
      exact J29 T30 _ X30 N30 e30 _ (by rw [if_pos hc137_27, if_pos hc147_31])
    · refine own_go (fun t_ k => XS.icmpYes X30.here hx rfl (pc0 := 147) (pc' := 154) rfl (hb hby at_147) rfl (feq hc147_31).2 (by decide) (by decide) k) ?_
      show WP p e below _ (T30.setTop (mkF m 154 #[.val (.int p1), .val (.int p2), .val (.int p3), .val (.int p4), .val (.int vi1), .val (.int vi2), .val (.int vi3), .val (.int vi4), .val (.int vi7), .val (.int vi10), .val (.int vi13), .val (.int vi16), .val (.int vi18), .val (.int vi20), .val (.int vi22), .val (.int vi24), .val (.int vi26)] []))
      refine own_go (fun t_ k => XS.iconst X30.here hx rfl (hb hby at_154) k) ?_
      show WP p e below _ (T30.setTop (mkF m 155 #[.val (.int p1), .val (.int p2), .val (.int p3), .val (.int p4), .val (.int vi1), .val (.int vi2), .val (.int vi3), .val (.int vi4), .val (.int vi7), .val (.int vi10), .val (.int vi13), .val (.int vi16), .val (.int vi18), .val (.int vi20), .val (.int vi22), .val (.int vi24), .val (.int vi26)] [(.int (0 : Int32))]))
      exact J29 T30 _ X30 N30 e30 _ (by rw [if_pos hc137_27, if_neg hc147_31])
  · refine own_go (fun t_ k => XS.icmpYes X25.here hx rfl (pc0 := 137) (pc' := 154) rfl (hb hby at_137) rfl (feq hc137_27).2 (by decide) (by decide) k) ?_
    show WP p e below _ (T25.setTop (mkF m 154 #[.val (.int p1), .val (.int p2), .val (.int p3), .val (.int p4), .val (.int vi1), .val (.int vi2), .val (.int vi3), .val (.int vi4), .val (.int vi7), .val (.int vi10), .val (.int vi13), .val (.int vi16), .val (.int vi18), .val (.int vi20), .val (.int vi22), .val (.int vi24), .val (.int vi26)] []))
    refine own_go (fun t_ k => XS.iconst X25.here hx rfl (hb hby at_154) k) ?_
    show WP p e below _ (T25.setTop (mkF m 155 #[.val (.int p1), .val (.int p2), .val (.int p3), .val (.int p4), .val (.int vi1), .val (.int vi2), .val (.int vi3), .val (.int vi4), .val (.int vi7), .val (.int vi10), .val (.int vi13), .val (.int vi16), .val (.int vi18), .val (.int vi20), .val (.int vi22), .val (.int vi24), .val (.int vi26)] [(.int (0 : Int32))]))
    exact J29 T25 _ X25 N25 e25 _ (by rw [if_neg hc137_27])
set_option maxRecDepth 65536 in
set_option maxHeartbeats 40000000 in
theorem comes_1 {Post : Tables → Env → Array Value → State → Outcome → State → Prop} (hpost : ∀ tb e args s v u, (limb_1_1.after args s (.returned v) u = true ∧ limb_1_2.after args s (.returned v) u = true ∧ True) → FrameEnd s (.returned v) u (Jvm.fieldLocs frame_1_writes args s ++ Jvm.arrayLocs frame_1_arrays args s ++ Jvm.staticLocs frame_1_statics s) 0 0 → Post tb e args s (.returned v) u) :
    ArmFor flags0 classFile x code maxLocals ret World_1 tables_1 room_1 Calls_1 rest_1 Pre_1 Post := by
  intro l hfl _ _ p e ha hc hk s m args below hf hA hF happ hP
  obtain ⟨hcalls, hrest, hpre⟩ := hP
  obtain ⟨-, -, -, hnamed, -, -, -, hat⟩ := (Spec.applies_iff hf).mp happ
  obtain ⟨hg, hn⟩ := and_e (Cond.before_iff.mp (show (Jvm.Cond.and given_1 narrow_1).before args s = true from hpre))
  obtain ⟨g1, g2⟩ := and_e hg
  obtain ⟨g3, g4⟩ := and_e g2
  obtain ⟨g5, g6⟩ := and_e g4
  obtain ⟨g7, g8⟩ := and_e g6
  obtain ⟨w0, w1, w2, w3, rfl⟩ : ∃ w0 w1 w2 w3 : Value, args = #[w0, w1, w2, w3] := by
    have hs : args.size = 4 := by simpa [Cond.value, given_1] using g1
    obtain ⟨L⟩ := args
    match L, hs with
    | [w0, w1, w2, w3], _ => exact ⟨w0, w1, w2, w3, rfl⟩
  have hw := fun d (hd : d ∈ tables_1) => atoms_spec (ws := Jvm.Cond.code x code maxLocals ret :: tables_1) hat d (List.mem_cons_of_mem _ hd)
  have hfit : Fit s := fun {y c} hc i hi => by
    obtain ⟨ha, rfl⟩ := Array.getElem?_eq_some_iff.mp hc
    have q := List.all_eq_true.mp ((Array.all_eq_true_iff_forall_mem.mp hF) _ (Array.getElem_mem ha)) i (List.mem_range.mpr hi)
    simpa [Array.getElem?_eq_getElem hi] using q
  obtain ⟨i0, ei0⟩ := is_v g3
  obtain rfl : w0 = (.int i0) := Option.some.inj ei0
  obtain ⟨i1, ei1⟩ := is_v g5
  obtain rfl : w1 = (.int i1) := Option.some.inj ei1
  obtain ⟨i2, ei2⟩ := is_v g7
  obtain rfl : w2 = (.int i2) := Option.some.inj ei2
  obtain ⟨i3, ei3⟩ := is_v g8
  obtain rfl : w3 = (.int i3) := Option.some.inj ei3
  obtain ⟨n, o, h1, h2, h3, _, L, rfl, ⟨rfl, N⟩, hq⟩ := rm0 l s _ hw tables_1 i0 i1 i2 i3 s.heap s.heap.size (Nat.le_refl _) p e ha hc hk s m _ below hf ((Spec.applies_iff_loose hf).mp happ).1 ⟨rfl, State.Warmed39.refl s, rfl⟩ trivial
  refine ⟨n, _, h1, h2, h3, hpost _ _ _ _ _ _ ⟨Cond.after_iff.mpr rfl, Cond.after_iff.mpr (eq_i res_at (Term.int_eval (1)) rfl), trivial⟩ ⟨hq.1, hq.2.1, (hq.2.2.sift fun y hy => Or.inr (N y hy)).mono (by decide) (by decide)⟩⟩
theorem main_1_1 : Claimed_1_1 := comes_1 fun _ _ _ _ _ _ h hF => ⟨h.1, hF⟩
theorem main_1_2 : Claimed_1_2 := comes_1 fun _ _ _ _ _ _ h hF => ⟨h.2.1, hF⟩
end Jvm.Pilot.@@N@@
namespace Jvm.Pilot.@@N@@
open Jvm Jvm.ClassFile Sem Op Lib Jvm.Free Jvm.Stand Jvm.Pilot.@@N@@.Jvm.D
/-! MADE BY PROGRAM (witnessworld.py) out of the Statement's table words and the real class files: 10 classes; the members and pool entries that the words name. The judged class is class 1, her method 1. -/
namespace start1
open Jvm.ClassFile
def u (s : String) : CpInfo := .utf8 (stringToUtf16 s)
/-- a pool by its gaps: so many unusable entries, then the entry; so many at the end -/
def gap : Nat → List CpInfo → List CpInfo
  | 0, r => r
  | n + 1, r => .unusable :: gap n r
def poolList (es : List (Nat × CpInfo)) (last : Nat) : List CpInfo := es.foldr (fun e r => gap e.1 (e.2 :: r)) (gap last [])
def pool (es : List (Nat × CpInfo)) (last : Nat) : Array CpInfo := ⟨poolList es last⟩
def fileOf (pool : Array CpInfo) (this : Nat) (attrs : Array Attribute := #[]) (ms : Array MethodInfo := #[]) (fl : Nat := 33) (sup : Nat := 0) (ifs : Array Nat := #[]) (fds : Array FieldInfo := #[]) : ClassFile where
  minorVersion := 0
  majorVersion := 65
  constantPool := pool
  accessFlags := fl
  thisClass := this
  superClass := sup
  interfaces := ifs
  fields := fds
  methods := ms
  attributes := attrs
def plain (name : String) (sup : Option ClassId) : Class where
  name := name
  kind := .ordinary
  loader := none
  accessFlags := 33
  super := sup
  interfaces := #[]
  cf := none
  fields := #[]
  methods := #[]
  instanceTypes := #[]
  staticTypes := #[]
  resolved := #[]
  callSites := []
  init := .initialized
  statics := none
  mirror := none

def pool0 : Array CpInfo := pool [(5, u "<init>"), (0, u "()V"), (1, .class_ 10), (1, u "java/lang/Object")] 113

def k0m0 : Method := { name := "<init>", desc := "()V", sig := { parameters := [], returnType := none }, accessFlags := 1, code := none }
/-- java/lang/Object -/
def k0 : Class := { plain "java/lang/Object" none with
  accessFlags := 33
  interfaces := #[]
  cf := some (fileOf pool0 8 #[] #[{ accessFlags := 1, nameIndex := 5, descriptorIndex := 6, attributes := #[] }] 33 0 #[] #[])
  fields := #[]
  methods := #[k0m0]
  instanceTypes := #[]
  staticTypes := #[]
  resolved := Array.replicate 124 none
  statics := none }

def pool1 : Array CpInfo := pool [(2, .class_ 4), (1, u "java/lang/Object"), (0, u "<init>"), (0, u "()V"), (0, .methodref 8 9), (0, .class_ 10), (0, .nameAndType 11 12), (0, u "java/lang/Math"), (0, u "min"), (0, u "(II)I"), (0, .methodref 8 14), (0, .nameAndType 15 12), (0, u "max"), (0, .integer 2147483647), (0, .methodref 18 19), (0, .class_ 20), (0, .nameAndType 21 22), (0, u "com/example/cairn/cairn/ArrayMeetingWayPinLaw"), (0, u "expected"), (0, u "(CCICCI)I"), (0, .methodref 24 25), (0, .class_ 26), (0, .nameAndType 27 22), (0, u "com/example/cairn/cairn/ArrayMeeting"), (0, u "way"), (0, .methodref 18 29), (0, .nameAndType 30 31), (0, u "mirror"), (0, u "(I)I"), (0, .long 32), (3, u "law"), (0, u "(IIII)Z")] 3

def k1m0 : Method := { name := "<init>", desc := "()V", sig := { parameters := [], returnType := none }, accessFlags := 1, code := none }
def k1c1 : Code := { maxStack := 6, maxLocals := 17, code := code, exceptionTable := #[], attributes := #[] }
def k1m1 : Method := { name := "law", desc := "(IIII)Z", sig := { parameters := [.int, .int, .int, .int], returnType := some .boolean }, accessFlags := 9, code := some k1c1 }
def k1c2 : Code := { maxStack := 6, maxLocals := 12, code := method_3_code, exceptionTable := #[], attributes := #[] }
def k1m2 : Method := { name := "expected", desc := "(CCICCI)I", sig := { parameters := [.char, .char, .int, .char, .char, .int], returnType := some .int }, accessFlags := 10, code := some k1c2 }
def k1c3 : Code := { maxStack := 2, maxLocals := 1, code := method_4_code, exceptionTable := #[], attributes := #[] }
def k1m3 : Method := { name := "mirror", desc := "(I)I", sig := { parameters := [.int], returnType := some .int }, accessFlags := 10, code := some k1c3 }
/-- com/example/cairn/cairn/ArrayMeetingWayPinLaw -/
def k1 : Class := { plain "com/example/cairn/cairn/ArrayMeetingWayPinLaw" (some 0) with
  accessFlags := 49
  interfaces := #[]
  cf := some (fileOf pool1 18 #[] #[{ accessFlags := 1, nameIndex := 5, descriptorIndex := 6, attributes := #[] }, { accessFlags := 9, nameIndex := 36, descriptorIndex := 37, attributes := #[] }, { accessFlags := 10, nameIndex := 21, descriptorIndex := 22, attributes := #[] }, { accessFlags := 10, nameIndex := 30, descriptorIndex := 31, attributes := #[] }] 49 2 #[] #[])
  fields := #[]
  methods := #[k1m0, k1m1, k1m2, k1m3]
  instanceTypes := #[]
  staticTypes := #[]
  resolved := Array.replicate 41 none
  statics := none }

def pool2 : Array CpInfo := pool [(1, .class_ 2), (0, u "java/lang/Math"), (1, .class_ 6), (1, u "java/lang/Object"), (0, u "<init>"), (0, u "()V"), (89, .class_ 100), (1, u "java/lang/Math$RandomNumberGeneratorHolder"), (71, u "negativeZeroFloatBits"), (0, u "J"), (2, u "negativeZeroDoubleBits"), (21, u "max"), (2, u "min"), (43, u "$assertionsDisabled"), (0, u "Z"), (88, u "(II)I"), (2, u "twoToTheDoubleScaleDown"), (0, u "D"), (4, u "twoToTheDoubleScaleUp"), (9, u "E"), (3, u "PI"), (2, u "TAU"), (2, u "DEGREES_TO_RADIANS"), (0, u "RADIANS_TO_DEGREES")] 94

def k2m0 : Method := { name := "<init>", desc := "()V", sig := { parameters := [], returnType := none }, accessFlags := 2, code := none }
def k2c1 : Code := { maxStack := 2, maxLocals := 2, code := jdk_29_method_65_code, exceptionTable := #[], attributes := #[] }
def k2m1 : Method := { name := "max", desc := "(II)I", sig := { parameters := [.int, .int], returnType := some .int }, accessFlags := 9, code := some k2c1 }
def k2c2 : Code := { maxStack := 2, maxLocals := 2, code := jdk_29_method_69_code, exceptionTable := #[], attributes := #[] }
def k2m2 : Method := { name := "min", desc := "(II)I", sig := { parameters := [.int, .int], returnType := some .int }, accessFlags := 9, code := some k2c2 }
/-- java/lang/Math -/
def k2 : Class := { plain "java/lang/Math" (some 0) with
  accessFlags := 49
  interfaces := #[]
  cf := some (fileOf pool2 1 #[.nestMembers #[98]] #[{ accessFlags := 2, nameIndex := 7, descriptorIndex := 8, attributes := #[] }, { accessFlags := 9, nameIndex := 198, descriptorIndex := 335, attributes := #[] }, { accessFlags := 9, nameIndex := 201, descriptorIndex := 335, attributes := #[] }] 49 4 #[] #[{ accessFlags := 25, nameIndex := 354, descriptorIndex := 339, attributes := #[] }, { accessFlags := 25, nameIndex := 358, descriptorIndex := 339, attributes := #[] }, { accessFlags := 25, nameIndex := 361, descriptorIndex := 339, attributes := #[] }, { accessFlags := 26, nameIndex := 364, descriptorIndex := 339, attributes := #[] }, { accessFlags := 26, nameIndex := 365, descriptorIndex := 339, attributes := #[] }, { accessFlags := 26, nameIndex := 172, descriptorIndex := 173, attributes := #[] }, { accessFlags := 26, nameIndex := 176, descriptorIndex := 173, attributes := #[] }, { accessFlags := 8, nameIndex := 344, descriptorIndex := 339, attributes := #[] }, { accessFlags := 8, nameIndex := 338, descriptorIndex := 339, attributes := #[] }, { accessFlags := 4120, nameIndex := 245, descriptorIndex := 246, attributes := #[] }])
  fields := #[{ name := "E", type := .double, accessFlags := 25, slot := 0, constantValue := 0 }, { name := "PI", type := .double, accessFlags := 25, slot := 1, constantValue := 0 }, { name := "TAU", type := .double, accessFlags := 25, slot := 2, constantValue := 0 }, { name := "DEGREES_TO_RADIANS", type := .double, accessFlags := 26, slot := 3, constantValue := 0 }, { name := "RADIANS_TO_DEGREES", type := .double, accessFlags := 26, slot := 4, constantValue := 0 }, { name := "negativeZeroFloatBits", type := .long, accessFlags := 26, slot := 5, constantValue := 0 }, { name := "negativeZeroDoubleBits", type := .long, accessFlags := 26, slot := 6, constantValue := 0 }, { name := "twoToTheDoubleScaleUp", type := .double, accessFlags := 8, slot := 7, constantValue := 0 }, { name := "twoToTheDoubleScaleDown", type := .double, accessFlags := 8, slot := 8, constantValue := 0 }, { name := "$assertionsDisabled", type := .boolean, accessFlags := 4120, slot := 9, constantValue := 0 }]
  methods := #[k2m0, k2m1, k2m2]
  instanceTypes := #[]
  staticTypes := #[.double, .double, .double, .double, .double, .long, .long, .double, .double, .boolean]
  resolved := Array.replicate 460 none
  statics := none }

def pool3 : Array CpInfo := pool [(2, .class_ 4), (1, u "java/lang/Object"), (0, u "<init>"), (0, u "()V"), (1, .class_ 10), (1, u "com/example/cairn/cairn/ArrayMeeting"), (0, u "way"), (0, u "(CCICCI)I"), (0, .long 32), (51, u "FILTER_RATIO"), (0, u "I"), (2, u "SHARED_WORD_VALUES"), (1, u "SHARED_WORDS_PART"), (1, u "NOT_MET"), (1, u "APART"), (1, u "LOOK_UP_FIRST"), (1, u "LOOK_UP_SECOND"), (1, u "MEET")] 12

def k3m0 : Method := { name := "<init>", desc := "()V", sig := { parameters := [], returnType := none }, accessFlags := 2, code := none }
def k3c1 : Code := { maxStack := 4, maxLocals := 10, code := prog_4_method_3_code, exceptionTable := #[], attributes := #[] }
def k3m1 : Method := { name := "way", desc := "(CCICCI)I", sig := { parameters := [.char, .char, .int, .char, .char, .int], returnType := some .int }, accessFlags := 8, code := some k3c1 }
/-- com/example/cairn/cairn/ArrayMeeting -/
def k3 : Class := { plain "com/example/cairn/cairn/ArrayMeeting" (some 0) with
  accessFlags := 48
  interfaces := #[]
  cf := some (fileOf pool3 8 #[] #[{ accessFlags := 2, nameIndex := 5, descriptorIndex := 6, attributes := #[] }, { accessFlags := 8, nameIndex := 11, descriptorIndex := 12, attributes := #[] }] 48 2 #[] #[{ accessFlags := 24, nameIndex := 65, descriptorIndex := 66, attributes := #[] }, { accessFlags := 26, nameIndex := 69, descriptorIndex := 66, attributes := #[] }, { accessFlags := 26, nameIndex := 71, descriptorIndex := 66, attributes := #[] }, { accessFlags := 24, nameIndex := 73, descriptorIndex := 66, attributes := #[] }, { accessFlags := 24, nameIndex := 75, descriptorIndex := 66, attributes := #[] }, { accessFlags := 24, nameIndex := 77, descriptorIndex := 66, attributes := #[] }, { accessFlags := 24, nameIndex := 79, descriptorIndex := 66, attributes := #[] }, { accessFlags := 24, nameIndex := 81, descriptorIndex := 66, attributes := #[] }])
  fields := #[{ name := "FILTER_RATIO", type := .int, accessFlags := 24, slot := 0, constantValue := 0 }, { name := "SHARED_WORD_VALUES", type := .int, accessFlags := 26, slot := 1, constantValue := 0 }, { name := "SHARED_WORDS_PART", type := .int, accessFlags := 26, slot := 2, constantValue := 0 }, { name := "NOT_MET", type := .int, accessFlags := 24, slot := 3, constantValue := 0 }, { name := "APART", type := .int, accessFlags := 24, slot := 4, constantValue := 0 }, { name := "LOOK_UP_FIRST", type := .int, accessFlags := 24, slot := 5, constantValue := 0 }, { name := "LOOK_UP_SECOND", type := .int, accessFlags := 24, slot := 6, constantValue := 0 }, { name := "MEET", type := .int, accessFlags := 24, slot := 7, constantValue := 0 }]
  methods := #[k3m0, k3m1]
  instanceTypes := #[]
  staticTypes := #[.int, .int, .int, .int, .int, .int, .int, .int]
  resolved := Array.replicate 94 none
  statics := none }

def pool4 : Array CpInfo := pool [(1, u "java/lang/Cloneable"), (0, .class_ 1), (0, u "java/lang/Object"), (0, .class_ 3)] 3

/-- java/lang/Cloneable -/
def k4 : Class := { plain "java/lang/Cloneable" (some 0) with
  accessFlags := 1537
  interfaces := #[]
  cf := some (fileOf pool4 2 #[] #[] 1537 4 #[] #[])
  fields := #[]
  methods := #[]
  instanceTypes := #[]
  staticTypes := #[]
  resolved := Array.replicate 8 none
  statics := none }

def pool5 : Array CpInfo := pool [(1, u "java/io/Serializable"), (0, .class_ 1), (0, u "java/lang/Object"), (0, .class_ 3)] 3

/-- java/io/Serializable -/
def k5 : Class := { plain "java/io/Serializable" (some 0) with
  accessFlags := 1537
  interfaces := #[]
  cf := some (fileOf pool5 2 #[] #[] 1537 4 #[] #[])
  fields := #[]
  methods := #[]
  instanceTypes := #[]
  staticTypes := #[]
  resolved := Array.replicate 8 none
  statics := none }

/-- the primitive byte -/
def k6 : Class := { plain "byte" none with kind := .primitive 'B', accessFlags := 0x411 }
/-- [B -/
def k7 : Class := { plain "[B" (some 0) with kind := .array 6 .byte, interfaces := #[4, 5], accessFlags := 1041 }

/-- the primitive int -/
def k8 : Class := { plain "int" none with kind := .primitive 'I', accessFlags := 0x411 }
/-- [I -/
def k9 : Class := { plain "[I" (some 0) with kind := .array 8 .int, interfaces := #[4, 5], accessFlags := 1041 }

def heap : Heap := #[]
def classes : Array Class := #[k0, k1, k2, k3, k4, k5, k6, k7, k8, k9]
def interned : List (Array UInt16 × Addr) := []
def slotsUsed : Nat := 0
def theMethod : MethodId := ⟨1, 1⟩
def args0 : Array Value := #[.int 5, .int 6, .int 7, .int 1]
def aboutOver (below : List Frame) : State where
  vm := { classes := classes, interned := interned.toArray }
  heap := heap
  slotsUsed := slotsUsed
  threads := #[{ frames := .invoking theMethod args0 :: below }]
def below0 : List Frame := [.native { method := ⟨0, 0⟩, args := #[] }]
def about1 : State := aboutOver below0
def p0 : Program := .bare "" "" ""
def e0 : Env := launch0.env 0 0 0
theorem w_frames : about1.frames = Frame.invoking theMethod args0 :: below0 := rfl
set_option maxRecDepth 65536 in
theorem w_args : argsFit about1.vm theMethod args0 = true := by decide +kernel
set_option maxRecDepth 65536 in
theorem w_heap : heapFits about1 = true := by decide +kernel
set_option maxRecDepth 65536 in
theorem w_runnable : about1.curStatus? = some .runnable := by decide +kernel
set_option maxRecDepth 65536 in
theorem w_alone : about1.alone = true := by decide +kernel
set_option maxRecDepth 65536 in
theorem w_named : about1.methodNamed? x = some theMethod := by decide +kernel
set_option maxRecDepth 65536 in
theorem w_hears : about1.hears theMethod below0 = true := by decide +kernel
set_option maxRecDepth 65536 in
theorem w_ripe : about1.ripe theMethod args0 below0 = true := by decide +kernel
theorem w_running : about1.status = .running := rfl
set_option maxRecDepth 65536 in
theorem w_room : about1.hasRoom e0.platform room_1 = true :=
  launch0.hasRoom_least _ room_1 (by decide +kernel) (by decide +kernel) (by decide +kernel) (by decide +kernel) (by decide +kernel) (by decide +kernel)
theorem allAtoms_all (ts : List Jvm.Cond) (a : Array Jvm.Value) (st : Jvm.State) : (allAtoms ts).before a st = ts.all (fun c => c.before a st) := by
  induction ts with
  | nil => rfl
  | cons c t ih =>
    show (Jvm.Cond.and c (allAtoms t)).before a st = _
    rw [Jvm.Cond.before_and, ih, List.all_cons]
def words1 : List Jvm.Cond := Jvm.Cond.code x code maxLocals ret :: tables_1
/-- a 'code' word, met by the world's own term for the bytes: nothing is compared byte by byte -/
theorem code_word {y : MethodName} {bytes : ByteArray} {mx : Nat} {rt : Option FieldType} {a : Array Value} {s : State} {m : MethodId} {meth : Method} {c : Code} (h1 : s.methodNamed? y = some m) (h2 : s.vm.method? m = some meth) (h3 : meth.code = some c) (h4 : c.code = bytes)
    (h5 : (c.maxLocals == mx && c.exceptionTable.isEmpty && decide (c.maxStack ≤ mostOperands) && decide (meth.sig.returnType = rt) && !meth.locks && decide (parseMethodDescriptor y.desc = some meth.sig)) = true) : (Jvm.Cond.code y bytes mx rt).before a s = true := by
  simp only [Bool.and_eq_true, beq_iff_eq, Bool.not_eq_true', decide_eq_true_eq] at h5
  obtain ⟨⟨⟨⟨⟨g1, g2⟩, g3⟩, g4⟩, g5⟩, g6⟩ := h5
  simp [Cond.before, Cond.holds, Cond.value, h1, h2, h3, h4, g1, g2, g3, g4, g5, g6]
def isCode : Jvm.Cond → Bool
  | .code _ _ _ _ => true
  | _ => false
theorem all_split {L : List Jvm.Cond} {P : Jvm.Cond → Bool} (h1 : L.all (fun c => isCode c || P c) = true) (h2 : ∀ c ∈ L.filter isCode, P c = true) : L.all P = true := by
  refine List.all_eq_true.mpr fun c hc => ?_
  have h := List.all_eq_true.mp h1 c hc
  rcases Bool.eq_false_or_eq_true (isCode c) with hi | hi
  · exact h2 c (List.mem_filter.mpr ⟨hc, hi⟩)
  · simpa [hi] using h
set_option maxRecDepth 65536 in
theorem w_c0 : (Jvm.Cond.code x code maxLocals ret).before args0 about1 = true := code_word (m := ⟨1, 1⟩) (meth := k1m1) (c := k1c1) (by decide +kernel) rfl rfl rfl (by decide +kernel)
set_option maxRecDepth 65536 in
theorem w_c1 : (Jvm.Cond.code ({ cls := "java/lang/Math", name := "min", desc := "(II)I" } : Jvm.MethodName) jdk_29_method_69_code (2 : Nat) (Option.some Jvm.ClassFile.FieldType.int)).before args0 about1 = true := code_word (m := ⟨2, 2⟩) (meth := k2m2) (c := k2c2) (by decide +kernel) rfl rfl rfl (by decide +kernel)
set_option maxRecDepth 65536 in
theorem w_c2 : (Jvm.Cond.code ({ cls := "java/lang/Math", name := "max", desc := "(II)I" } : Jvm.MethodName) jdk_29_method_65_code (2 : Nat) (Option.some Jvm.ClassFile.FieldType.int)).before args0 about1 = true := code_word (m := ⟨2, 1⟩) (meth := k2m1) (c := k2c1) (by decide +kernel) rfl rfl rfl (by decide +kernel)
set_option maxRecDepth 65536 in
theorem w_c3 : (Jvm.Cond.code ({ cls := "com/example/cairn/cairn/ArrayMeetingWayPinLaw", name := "expected", desc := "(CCICCI)I" } : Jvm.MethodName) method_3_code (12 : Nat) (Option.some Jvm.ClassFile.FieldType.int)).before args0 about1 = true := code_word (m := ⟨1, 2⟩) (meth := k1m2) (c := k1c2) (by decide +kernel) rfl rfl rfl (by decide +kernel)
set_option maxRecDepth 65536 in
theorem w_c4 : (Jvm.Cond.code ({ cls := "com/example/cairn/cairn/ArrayMeeting", name := "way", desc := "(CCICCI)I" } : Jvm.MethodName) prog_4_method_3_code (10 : Nat) (Option.some Jvm.ClassFile.FieldType.int)).before args0 about1 = true := code_word (m := ⟨3, 1⟩) (meth := k3m1) (c := k3c1) (by decide +kernel) rfl rfl rfl (by decide +kernel)
set_option maxRecDepth 65536 in
theorem w_c5 : (Jvm.Cond.code ({ cls := "com/example/cairn/cairn/ArrayMeetingWayPinLaw", name := "mirror", desc := "(I)I" } : Jvm.MethodName) method_4_code (1 : Nat) (Option.some Jvm.ClassFile.FieldType.int)).before args0 about1 = true := code_word (m := ⟨1, 3⟩) (meth := k1m3) (c := k1c3) (by decide +kernel) rfl rfl rfl (by decide +kernel)
def codes1 : List Jvm.Cond := [Jvm.Cond.code x code maxLocals ret, Jvm.Cond.code ({ cls := "java/lang/Math", name := "min", desc := "(II)I" } : Jvm.MethodName) jdk_29_method_69_code (2 : Nat) (Option.some Jvm.ClassFile.FieldType.int), Jvm.Cond.code ({ cls := "java/lang/Math", name := "max", desc := "(II)I" } : Jvm.MethodName) jdk_29_method_65_code (2 : Nat) (Option.some Jvm.ClassFile.FieldType.int), Jvm.Cond.code ({ cls := "com/example/cairn/cairn/ArrayMeetingWayPinLaw", name := "expected", desc := "(CCICCI)I" } : Jvm.MethodName) method_3_code (12 : Nat) (Option.some Jvm.ClassFile.FieldType.int), Jvm.Cond.code ({ cls := "com/example/cairn/cairn/ArrayMeeting", name := "way", desc := "(CCICCI)I" } : Jvm.MethodName) prog_4_method_3_code (10 : Nat) (Option.some Jvm.ClassFile.FieldType.int), Jvm.Cond.code ({ cls := "com/example/cairn/cairn/ArrayMeetingWayPinLaw", name := "mirror", desc := "(I)I" } : Jvm.MethodName) method_4_code (1 : Nat) (Option.some Jvm.ClassFile.FieldType.int)]
set_option maxRecDepth 65536 in
theorem codes_eq : words1.filter isCode = codes1 := rfl
theorem w_codes : ∀ c ∈ words1.filter isCode, c.before args0 about1 = true := by
  rw [codes_eq]
  intro c hc
  simp only [codes1, List.mem_cons, List.not_mem_nil, or_false] at hc
  rcases hc with rfl | rfl | rfl | rfl | rfl | rfl
  · exact w_c0
  · exact w_c1
  · exact w_c2
  · exact w_c3
  · exact w_c4
  · exact w_c5
set_option maxRecDepth 65536 in
theorem w_t1 : words1.all (fun c => isCode c || c.before args0 about1) = true := by decide +kernel
theorem w_tables : (allAtoms (Jvm.Cond.code x code maxLocals ret :: tables_1)).before args0 about1 = true := by
  rw [allAtoms_all]
  show words1.all (fun c => c.before args0 about1) = true
  refine all_split ?_ w_codes
  rw [w_t1]
set_option maxRecDepth 65536 in
theorem w_case : (Jvm.Cond.and given_1 narrow_1).before args0 about1 = true := by decide +kernel
theorem w_applies : (headSpec (Jvm.Cond.code x code maxLocals ret :: tables_1) room_1).applies x e0.platform about1 = true :=
  (Spec.applies_iff w_frames).mpr ⟨w_running, w_runnable, w_alone, w_named, w_hears, w_ripe, w_room, w_tables⟩
theorem atStart : AtStart classFile x code maxLocals ret World_1 tables_1 room_1 Calls_1 rest_1 Pre_1 launch0 p0 e0 about1 theMethod args0 below0 :=
  ⟨lists_1, trivial, launch0.admits_env _ _ _, launch0.least_env, fairChoices_fair.cas, fairChoices_fair.clock, w_frames, w_args, w_heap, w_applies, trivial, trivial, w_case⟩
end start1
theorem witness_1 : WitnessClaimed_1 := ⟨start1.p0, start1.e0, start1.about1, start1.theMethod, start1.args0, start1.below0, start1.atStart⟩
end Jvm.Pilot.@@N@@
