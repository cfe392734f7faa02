import JvmDerived
import JvmDerived.Pilot.@@N@@Statement
import JvmDerived.Pilot.@@N@@Code
set_option linter.unusedVariables false
set_option linter.unusedSimpArgs false
namespace Jvm.Pilot.@@N@@
open Jvm Jvm.ClassFile Sem Op Lib Jvm.Free Jvm.Stand Jvm.LawKit Jvm.RoadKit Bundle Jvm.Pilot.@@N@@.Jvm.D
/-! The end of a walk, as a goal: from U the run ends, and G holds of the end. -/
def WP (p : Program) (e : Env) (below : List Frame) (G : State → Outcome → Prop) (U : State) : Prop :=
  ∃ s₂ o, Steps p.tables e below U s₂ ∧ s₂.status = .running ∧ Ended s₂ below o ∧ G s₂ o
def GG (Q : Option Value → Heap → List Loc → Prop) (s : State) (k n : Nat) : State → Outcome → Prop :=
  fun t o => ∃ v L, o = .returned v ∧ Q v t.heap L ∧ FrameEnd s o t L k n
theorem own_go {p : Program} {e : Env} {below : List Frame} {G : State → Outcome → Prop} {U V : State} (h : ∀ t, Steps p.tables e below V t → Steps p.tables e below U t) (w : WP p e below G V) : WP p e below G U := by
  obtain ⟨t, o, h1, h2⟩ := w
  exact ⟨t, o, h _ h1, h2⟩
/-- what a body that writes nothing leaves -/
def PQ (h0 : Heap) (n0 : Nat) (w : Value) (v : Option Value) (h : Heap) (L : List Loc) : Prop := v = some w ∧ Fr n0 L ∧ h = h0
/-- what the law leaves -/
def Q0 (n0 : Nat) (v : Option Value) (h : Heap) (L : List Loc) : Prop := v = some (.int 1) ∧ Fr n0 L
section Own
variable {p : Program} {l : Launch} {e : Env} {R : Room} {s : State} {m : MethodId} {args : Array Value} {below : List Frame} {meth : Method} {c : Code} {T : State} {locs : List Loc} {cells slots : Nat}
theorem own_mono (X : Stand p l e R s m args below meth c T locs cells slots) {k n : Nat} (h1 : cells ≤ k) (h2 : slots ≤ n) : Stand p l e R s m args below meth c T locs k n :=
  ⟨X.admits, X.cas, X.clock, X.frames, X.room, X.hears, X.method, X.code, X.here, X.tail, X.warmed, X.limits, X.bytes, X.same.mono h1 h2⟩
theorem own_retI (X : Stand p l e R s m args below meth c T locs cells slots) (hx : p.tables.exec = Jvm.exec) (hnl : meth.locks = false) (hret : meth.sig.returnType = some .int) {pc : Nat} {Ls : Array Slot} {z : Int32} {rest : List Value} (hd : decode c.code pc = .ok (.ireturn, 1)) {Q : Option Value → Heap → List Loc → Prop} {k n : Nat}
    (hq : Q (some (.int z)) T.heap locs) (hc : cells ≤ k) (hs : slots ≤ n) : WP p e below (GG Q s k n) (T.setTop (mkF m pc Ls (.int z :: rest))) := by
  obtain ⟨fs, hr, hrun, hended, hW, hsame⟩ := X.leave (v := some (.int z)) (fun h => by rw [hret] at h; cases h) hnl
  exact ⟨_, _, retOut X hx hret rfl (Or.inl ⟨rfl, Or.inl rfl, z, rfl⟩) hd hr, hrun, hended, _, _, rfl, hq, ⟨_, rfl⟩, hW, hsame.mono hc hs⟩
theorem own_retN (X : Stand p l e R s m args below meth c T locs cells slots) (hx : p.tables.exec = Jvm.exec) (hnl : meth.locks = false) {t : FieldType} (hret : meth.sig.returnType = some t) (ht : t = .boolean ∨ t = .byte ∨ t = .char ∨ t = .short) {pc : Nat} {Ls : Array Slot} {z : Int32} {rest : List Value} (hd : decode c.code pc = .ok (.ireturn, 1)) {Q : Option Value → Heap → List Loc → Prop} {k n : Nat}
    (hq : Q (some (.int (nar t z))) T.heap locs) (hc : cells ≤ k) (hs : slots ≤ n) : WP p e below (GG Q s k n) (T.setTop (mkF m pc Ls (.int z :: rest))) := by
  obtain ⟨fs, hr, hrun, hended, hW, hsame⟩ := X.leave (v := some (.int (nar t z))) (fun h => by rw [hret] at h; cases h) hnl
  exact ⟨_, _, retN X hx hret ht hd hr, hrun, hended, _, _, rfl, hq, ⟨_, rfl⟩, hW, hsame.mono hc hs⟩
theorem own_retZ (X : Stand p l e R s m args below meth c T locs cells slots) (hx : p.tables.exec = Jvm.exec) (hnl : meth.locks = false) (hret : meth.sig.returnType = some .boolean) {pc : Nat} {Ls : Array Slot} {z : Int32} {rest : List Value} (hd : decode c.code pc = .ok (.ireturn, 1)) (hz : z = 0 ∨ z = 1) {Q : Option Value → Heap → List Loc → Prop} {k n : Nat}
    (hq : Q (some (.int z)) T.heap locs) (hc : cells ≤ k) (hs : slots ≤ n) : WP p e below (GG Q s k n) (T.setTop (mkF m pc Ls (.int z :: rest))) := by
  have hb : nar .boolean z = z := by rcases hz with rfl | rfl <;> rfl
  exact own_retN X hx hnl hret (Or.inl rfl) hd (by rw [hb]; exact hq) hc hs
theorem own_retC (X : Stand p l e R s m args below meth c T locs cells slots) (hx : p.tables.exec = Jvm.exec) (hnl : meth.locks = false) (hret : meth.sig.returnType = some .char) {pc : Nat} {Ls : Array Slot} {z : Int32} {rest : List Value} (hd : decode c.code pc = .ok (.ireturn, 1)) {Q : Option Value → Heap → List Loc → Prop} {k n : Nat}
    (hq : Q (some (.int z.toUInt32.toUInt16.toUInt32.toInt32)) T.heap locs) (hc : cells ≤ k) (hs : slots ≤ n) : WP p e below (GG Q s k n) (T.setTop (mkF m pc Ls (.int z :: rest))) :=
  own_retN X hx hnl hret (Or.inr (Or.inr (Or.inl rfl))) hd hq hc hs
theorem own_retB (X : Stand p l e R s m args below meth c T locs cells slots) (hx : p.tables.exec = Jvm.exec) (hnl : meth.locks = false) (hret : meth.sig.returnType = some .byte) {pc : Nat} {Ls : Array Slot} {z : Int32} {rest : List Value} (hd : decode c.code pc = .ok (.ireturn, 1)) {Q : Option Value → Heap → List Loc → Prop} {k n : Nat}
    (hq : Q (some (.int z.toInt8.toInt32)) T.heap locs) (hc : cells ≤ k) (hs : slots ≤ n) : WP p e below (GG Q s k n) (T.setTop (mkF m pc Ls (.int z :: rest))) :=
  own_retN X hx hnl hret (Or.inr (Or.inl rfl)) hd hq hc hs
theorem own_retJ (X : Stand p l e R s m args below meth c T locs cells slots) (hx : p.tables.exec = Jvm.exec) (hnl : meth.locks = false) (hret : meth.sig.returnType = some .long) {pc : Nat} {Ls : Array Slot} {z : Int64} {rest : List Value} (hd : decode c.code pc = .ok (.lreturn, 1)) {Q : Option Value → Heap → List Loc → Prop} {k n : Nat}
    (hq : Q (some (.long z)) T.heap locs) (hc : cells ≤ k) (hs : slots ≤ n) : WP p e below (GG Q s k n) (T.setTop (mkF m pc Ls (.long z :: rest))) := by
  obtain ⟨fs, hr, hrun, hended, hW, hsame⟩ := X.leave (v := some (.long z)) (fun h => by rw [hret] at h; cases h) hnl
  exact ⟨_, _, retOut X hx hret rfl (Or.inr (Or.inl ⟨rfl, rfl, z, rfl⟩)) hd hr, hrun, hended, _, _, rfl, hq, ⟨_, rfl⟩, hW, hsame.mono hc hs⟩
theorem own_retA (X : Stand p l e R s m args below meth c T locs cells slots) (hx : p.tables.exec = Jvm.exec) (hnl : meth.locks = false) {t : FieldType} (hret : meth.sig.returnType = some t) (ht : t.isReference = true) {pc : Nat} {Ls : Array Slot} {w : Value} (hw : w.isRef = true) {rest : List Value} (hd : decode c.code pc = .ok (.areturn, 1)) {Q : Option Value → Heap → List Loc → Prop} {k n : Nat}
    (hq : Q (some w) T.heap locs) (hc : cells ≤ k) (hs : slots ≤ n) : WP p e below (GG Q s k n) (T.setTop (mkF m pc Ls (w :: rest))) := by
  obtain ⟨fs, hr, hrun, hended, hW, hsame⟩ := X.leave (v := some w) (fun h => by rw [hret] at h; cases h) hnl
  have hn : narrow t w = w := by cases t <;> first | rfl | (simp [FieldType.isReference] at ht)
  exact ⟨_, _, retOut X hx hret hn (Or.inr (Or.inr (Or.inr (Or.inr ⟨rfl, ht, hw⟩)))) hd hr, hrun, hended, _, _, rfl, hq, ⟨_, rfl⟩, hW, hsame.mono hc hs⟩
theorem own_ret0 (X : Stand p l e R s m args below meth c T locs cells slots) (hx : p.tables.exec = Jvm.exec) (hnl : meth.locks = false) (hret : meth.sig.returnType = none) {pc : Nat} {Ls : Array Slot} (hd : decode c.code pc = .ok (.return_, 1)) {Q : Option Value → Heap → List Loc → Prop} {k n : Nat}
    (hq : Q none T.heap locs) (hc : cells ≤ k) (hs : slots ≤ n) : WP p e below (GG Q s k n) (T.setTop (mkF m pc Ls [])) := by
  obtain ⟨fs, hr, hrun, hended, hW, hsame⟩ := X.leave (v := none) (fun _ => rfl) hnl
  exact ⟨_, _, X.returnOut hx hret hd hr, hrun, hended, _, _, rfl, hq, ⟨_, rfl⟩, hW, hsame.mono hc hs⟩
end Own

def hr : Int32 → Int32 → Nat → Int32
  | h, _, 0 => h
  | h, s, k + 1 => hr ((31 : Int32) * h + s) (s + 1) k
theorem own_gt {s e : Int32} (h : s.toInt = e.toInt + 1) : e < s := by rw [Int32.lt_iff_toInt_lt]; omega
theorem own_le {s e : Int32} {k : Nat} (h : s.toInt + ((k + 1 : Nat) : Int) = e.toInt + 1) : ¬ e < s := by rw [Int32.lt_iff_toInt_lt]; omega
theorem own_up {s e : Int32} {k : Nat} (h : s.toInt + ((k + 1 : Nat) : Int) = e.toInt + 1) (h0 : 0 ≤ s.toInt) (h1 : e.toInt < 65536) : (s + 1).toInt + (k : Int) = e.toInt + 1 ∧ 0 ≤ (s + 1).toInt := by
  have a1 := c_iadd s 1
  have o1 : (1 : Int32).toInt = 1 := rfl
  have r := rng32 (s + 1)
  omega
def f1 (p1 : Int32) (p2 : Int32) : Int32 := (if p2 < p1 then p2 else p1)
theorem d1_0 : decode jdk_29_method_69_code 0 = .ok (.iload_n 0, 1) := by decide +kernel
theorem d1_1 : decode jdk_29_method_69_code 1 = .ok (.iload_n 1, 1) := by decide +kernel
theorem d1_2 : decode jdk_29_method_69_code 2 = .ok (.if_icmp .gt 7, 3) := by decide +kernel
theorem d1_5 : decode jdk_29_method_69_code 5 = .ok (.iload_n 0, 1) := by decide +kernel
theorem d1_6 : decode jdk_29_method_69_code 6 = .ok (.goto 4, 3) := by decide +kernel
theorem d1_9 : decode jdk_29_method_69_code 9 = .ok (.iload_n 1, 1) := by decide +kernel
theorem d1_10 : decode jdk_29_method_69_code 10 = .ok (.ireturn, 1) := by decide +kernel
theorem ef_rm1 (m : MethodId) (x0 : Int32) (x1 : Int32) : entryFrame m #[(.int x0), (.int x1)] 2 = mkF m 0 #[.val (.int x0), .val (.int x1)] [] := by first | (simp [entryFrame, mkF, argsToLocals, Value.category]; done) | rfl
set_option maxRecDepth 65536 in
set_option maxHeartbeats 40000000 in
theorem rm1 (l : Launch) (Z : State) (a0 : Array Value) (hw : ∀ d ∈ tables_1, d.before a0 Z = true) (ws : List Jvm.Cond) (p1 : Int32) (p2 : Int32) (h0 : Heap) (n0 : Nat) :
    MetFree l (⟨"java/lang/Math", "min", "(II)I"⟩ : MethodName) (head1 (Jvm.Cond.code (⟨"java/lang/Math", "min", "(II)I"⟩ : MethodName) jdk_29_method_69_code 2 (some .int) :: ws) ({ frames := 0, cells := 0, slots := 0, locals := 0 } : Room)) (fun a U => a = #[(.int p1), (.int p2)] ∧ Z.Warmed39 U.vm ∧ U.heap = h0) (fun _ _ _ _ _ => True) (fun _ U o U' => ∃ v L, o = .returned v ∧ (PQ h0 n0 (.int (f1 p1 p2))) v U'.heap L ∧ FrameEnd U o U' L ({ frames := 0, cells := 0, slots := 0, locals := 0 } : Room).cells ({ frames := 0, cells := 0, slots := 0, locals := 0 } : Room).slots) := by
  refine MetFree.of_bodySF (Jvm.Free.JP.mathPlain rfl (by decide +kernel)) hisR ?_
  intro p e s m args below meth c s₁ Bd hml0 hP hK
  obtain ⟨rfl, hZ, hh⟩ := hP
  have hx := Bd.exec
  have hby := Bd.bytes
  have hml : c.maxLocals = 2 := hml0
  have hown : s.vm.findClass "java/lang/Math" = some m.cls := findClass_of_methodNamed Bd.named
  have hnm := (name_of_methodNamed Bd.named Bd.method).1
  have X0 : Stand p l e ({ frames := 0, cells := 0, slots := 0, locals := 0 } : Room) s m #[(.int p1), (.int p2)] below meth c s₁ [] 0 0 := Stand.of_body Bd
  have e0 : s₁.heap = h0 := by rw [← hh, Bd.state]; rfl
  have N0 := Fr.nil n0
  show WP p e below (GG (PQ h0 n0 (.int (f1 p1 p2))) s ({ frames := 0, cells := 0, slots := 0, locals := 0 } : Room).cells ({ frames := 0, cells := 0, slots := 0, locals := 0 } : Room).slots) (s₁.setTop (entryFrame m #[(.int p1), (.int p2)] 2))
  rw [ef_rm1 m p1 p2]
  show WP p e below _ (s₁.setTop (mkF m 0 #[.val (.int p1), .val (.int p2)] []))
  refine own_go (fun t_ k => XS.iloadN X0.here hx rfl (hb hby d1_0) rfl k) ?_
  show WP p e below _ (s₁.setTop (mkF m 1 #[.val (.int p1), .val (.int p2)] [(.int p1)]))
  refine own_go (fun t_ k => XS.iloadN X0.here hx rfl (hb hby d1_1) rfl k) ?_
  show WP p e below _ (s₁.setTop (mkF m 2 #[.val (.int p1), .val (.int p2)] [(.int p2), (.int p1)]))
  by_cases hc2_1 : p2 < p1
  · refine own_go (fun t_ k => XS.icmpYes X0.here hx rfl (pc0 := 2) (pc' := 9) rfl (hb hby d1_2) rfl (tlt hc2_1).2.2.1 (by decide) (by decide) k) ?_
    show WP p e below _ (s₁.setTop (mkF m 9 #[.val (.int p1), .val (.int p2)] []))
    refine own_go (fun t_ k => XS.iloadN X0.here hx rfl (hb hby d1_9) rfl k) ?_
    show WP p e below _ (s₁.setTop (mkF m 10 #[.val (.int p1), .val (.int p2)] [(.int p2)]))
    exact own_retI X0 hx Bd.notSynchronized Bd.returns (hb hby d1_10) (show PQ h0 n0 (.int (f1 p1 p2)) _ _ _ from ⟨by rw [f1, if_pos hc2_1], N0, e0⟩) (by decide) (by decide)
  · refine own_go (fun t_ k => XS.icmpNo X0.here hx rfl (hb hby d1_2) rfl (flt hc2_1).2.2.1 k) ?_
    show WP p e below _ (s₁.setTop (mkF m 5 #[.val (.int p1), .val (.int p2)] []))
    refine own_go (fun t_ k => XS.iloadN X0.here hx rfl (hb hby d1_5) rfl k) ?_
    show WP p e below _ (s₁.setTop (mkF m 6 #[.val (.int p1), .val (.int p2)] [(.int p1)]))
    refine own_go (fun t_ k => XS.goto X0.here hx rfl (pc0 := 6) (pc' := 10) rfl (hb hby d1_6) (by decide) (by decide) k) ?_
    show WP p e below _ (s₁.setTop (mkF m 10 #[.val (.int p1), .val (.int p2)] [(.int p1)]))
    exact own_retI X0 hx Bd.notSynchronized Bd.returns (hb hby d1_10) (show PQ h0 n0 (.int (f1 p1 p2)) _ _ _ from ⟨by rw [f1, if_neg hc2_1], N0, e0⟩) (by decide) (by decide)
def Q_rm3 (Z : State) (a1 : Addr) (h0 : Heap) (n0 : Nat) (v : Option Value) (h : Heap) (L : List Loc) : Prop := v = none ∧ Fr n0 L ∧ h = h0
theorem d3_0 : decode prog_27_method_1_code 0 = .ok (.aload_n 0, 1) := by decide +kernel
theorem d3_1 : decode prog_27_method_1_code 1 = .ok (.invokespecial 1, 3) := by decide +kernel
theorem d3_4 : decode prog_27_method_1_code 4 = .ok (.return_, 1) := by decide +kernel
theorem pn_0 : plainName "com/example/cairn/cairn/Container" = true := by first | (simp [plainName, overriddenIn]; done) | decide +kernel
theorem ef_rm3 (m : MethodId) (x0 : Addr) : entryFrame m #[(.ref x0)] 1 = mkF m 0 #[.val (.ref x0)] [] := by first | (simp [entryFrame, mkF, argsToLocals, Value.category]; done) | rfl
set_option maxRecDepth 65536 in
set_option maxHeartbeats 40000000 in
theorem rm3 (l : Launch) (Z : State) (a0 : Array Value) (hw : ∀ d ∈ tables_1, d.before a0 Z = true) (ws : List Jvm.Cond) (a1 : Addr) (h0 : Heap) (n0 : Nat) :
    MetFree l (⟨"com/example/cairn/cairn/Container", "<init>", "()V"⟩ : MethodName) (head1 (Jvm.Cond.code (⟨"com/example/cairn/cairn/Container", "<init>", "()V"⟩ : MethodName) prog_27_method_1_code 1 none :: ws) ({ frames := 1, cells := 0, slots := 0, locals := 12 } : Room)) (fun a U => a = #[(.ref a1)] ∧ Z.Warmed39 U.vm ∧ U.heap = h0) (fun _ _ _ _ _ => True) (fun _ U o U' => ∃ v L, o = .returned v ∧ (Q_rm3 Z a1 h0 n0) v U'.heap L ∧ FrameEnd U o U' L ({ frames := 1, cells := 0, slots := 0, locals := 12 } : Room).cells ({ frames := 1, cells := 0, slots := 0, locals := 12 } : Room).slots) := by
  refine MetFree.of_bodySF (plainFor_of_name pn_0) hisR ?_
  intro p e s m args below meth c s₁ Bd hml0 hP hK
  obtain ⟨rfl, hZ, hh⟩ := hP
  have hx := Bd.exec
  have hby := Bd.bytes
  have hml : c.maxLocals = 1 := hml0
  have hown : s.vm.findClass "com/example/cairn/cairn/Container" = some m.cls := findClass_of_methodNamed Bd.named
  have hnm := (name_of_methodNamed Bd.named Bd.method).1
  have X0 : Stand p l e ({ frames := 1, cells := 0, slots := 0, locals := 12 } : Room) s m #[(.ref a1)] below meth c s₁ [] 0 0 := Stand.of_body Bd
  have e0 : s₁.heap = h0 := by rw [← hh, Bd.state]; rfl
  have N0 := Fr.nil n0
  show WP p e below (GG (Q_rm3 Z a1 h0 n0) s ({ frames := 1, cells := 0, slots := 0, locals := 12 } : Room).cells ({ frames := 1, cells := 0, slots := 0, locals := 12 } : Room).slots) (s₁.setTop (entryFrame m #[(.ref a1)] 1))
  rw [ef_rm3 m a1]
  show WP p e below _ (s₁.setTop (mkF m 0 #[.val (.ref a1)] []))
  refine own_go (fun t_ k => XS.aloadN X0.here hx rfl (hb hby d3_0) rfl rfl k) ?_
  show WP p e below _ (s₁.setTop (mkF m 1 #[.val (.ref a1)] [(.ref a1)]))
  obtain ⟨T1, X1, e1, st1⟩ := initO X0 hx hZ hown (hw _ (List.mem_of_getElem? (i := 19) rfl)) (hw _ (List.mem_of_getElem? (i := 20) rfl)) (hw _ (List.mem_of_getElem? (i := 21) rfl)) e0 (g := (mkF m 1 #[.val (.ref a1)] [(.ref a1)])) rfl (by rw [hml]; rfl) rfl (hb hby d3_1) (by decide) (W := 0) (by show 2 * 0 + _ ≤ _; exact Nat.le_of_eq rfl) (by decide)
  refine own_go st1 ?_
  show WP p e below _ (T1.setTop (mkF m 4 #[.val (.ref a1)] []))
  exact own_ret0 X1 hx Bd.notSynchronized Bd.returns (hb hby d3_4) (⟨rfl, N0, e1⟩) (by decide) (by decide)
def Q_rm2 (Z : State) (a1 : Addr) (a2 : Addr) (a3 : Addr) (p4 : Int32) (p5 : Int32) (p6 : Int32) (h0 : Heap) (n0 : Nat) (v : Option Value) (h : Heap) (L : List Loc) : Prop := v = none ∧ Fr n0 L ∧ Keep h0 h [a1] ∧ Exa Z h a1 "com/example/cairn/cairn/RunContainer" ∧ Fld Z h a1 "com/example/cairn/cairn/RunContainer" "starts" "[C" (.ref a2) ∧ Fld Z h a1 "com/example/cairn/cairn/RunContainer" "ends" "[C" (.ref a3) ∧ Fld Z h a1 "com/example/cairn/cairn/RunContainer" "size" "I" (.int p4)
theorem pd_0 : parseMethodDescriptor "()V" = some ⟨[], none⟩ := by decide +kernel
theorem d2_0 : decode prog_44_method_2_code 0 = .ok (.aload_n 0, 1) := by decide +kernel
theorem d2_1 : decode prog_44_method_2_code 1 = .ok (.invokespecial 7, 3) := by decide +kernel
theorem d2_4 : decode prog_44_method_2_code 4 = .ok (.aload_n 0, 1) := by decide +kernel
theorem d2_5 : decode prog_44_method_2_code 5 = .ok (.aload_n 1, 1) := by decide +kernel
theorem d2_6 : decode prog_44_method_2_code 6 = .ok (.putfield 12, 3) := by decide +kernel
theorem d2_9 : decode prog_44_method_2_code 9 = .ok (.aload_n 0, 1) := by decide +kernel
theorem d2_10 : decode prog_44_method_2_code 10 = .ok (.aload_n 2, 1) := by decide +kernel
theorem d2_11 : decode prog_44_method_2_code 11 = .ok (.putfield 16, 3) := by decide +kernel
theorem d2_14 : decode prog_44_method_2_code 14 = .ok (.aload_n 0, 1) := by decide +kernel
theorem d2_15 : decode prog_44_method_2_code 15 = .ok (.iload_n 3, 1) := by decide +kernel
theorem d2_16 : decode prog_44_method_2_code 16 = .ok (.putfield 19, 3) := by decide +kernel
theorem d2_19 : decode prog_44_method_2_code 19 = .ok (.aload_n 0, 1) := by decide +kernel
theorem d2_20 : decode prog_44_method_2_code 20 = .ok (.iload 4, 2) := by decide +kernel
theorem d2_22 : decode prog_44_method_2_code 22 = .ok (.putfield 23, 3) := by decide +kernel
theorem d2_25 : decode prog_44_method_2_code 25 = .ok (.aload_n 0, 1) := by decide +kernel
theorem d2_26 : decode prog_44_method_2_code 26 = .ok (.iload 5, 2) := by decide +kernel
theorem d2_28 : decode prog_44_method_2_code 28 = .ok (.putfield 26, 3) := by decide +kernel
theorem d2_31 : decode prog_44_method_2_code 31 = .ok (.return_, 1) := by decide +kernel
theorem pn_1 : plainName "com/example/cairn/cairn/RunContainer" = true := by first | (simp [plainName, overriddenIn]; done) | decide +kernel
theorem ef_rm2 (m : MethodId) (x0 : Addr) (x1 : Addr) (x2 : Addr) (x3 : Int32) (x4 : Int32) (x5 : Int32) : entryFrame m #[(.ref x0), (.ref x1), (.ref x2), (.int x3), (.int x4), (.int x5)] 6 = mkF m 0 #[.val (.ref x0), .val (.ref x1), .val (.ref x2), .val (.int x3), .val (.int x4), .val (.int x5)] [] := by first | (simp [entryFrame, mkF, argsToLocals, Value.category]; done) | rfl
set_option maxRecDepth 65536 in
set_option maxHeartbeats 40000000 in
theorem rm2 (l : Launch) (Z : State) (a0 : Array Value) (hw : ∀ d ∈ tables_1, d.before a0 Z = true) (ws : List Jvm.Cond) (a1 : Addr) (a2 : Addr) (a3 : Addr) (p4 : Int32) (p5 : Int32) (p6 : Int32) (h0 : Heap) (n0 : Nat) (E_a : Exa Z h0 a1 "com/example/cairn/cairn/RunContainer") (g_a : n0 ≤ a1) (F_0 : Fld Z h0 a1 "com/example/cairn/cairn/RunContainer" "starts" "[C" .null) (F_1 : Fld Z h0 a1 "com/example/cairn/cairn/RunContainer" "ends" "[C" .null) (F_2 : Fld Z h0 a1 "com/example/cairn/cairn/RunContainer" "size" "I" (.int (0 : Int32))) (F_3 : Fld Z h0 a1 "com/example/cairn/cairn/RunContainer" "cardinality" "I" (.int (0 : Int32))) (F_4 : Fld Z h0 a1 "com/example/cairn/cairn/RunContainer" "mayTouch" "Z" (.int (0 : Int32))) :
    MetFree l (⟨"com/example/cairn/cairn/RunContainer", "<init>", "([C[CIIZ)V"⟩ : MethodName) (head1 (Jvm.Cond.code (⟨"com/example/cairn/cairn/RunContainer", "<init>", "([C[CIIZ)V"⟩ : MethodName) prog_44_method_2_code 6 none :: ws) ({ frames := 2, cells := 0, slots := 0, locals := 24 } : Room)) (fun a U => a = #[(.ref a1), (.ref a2), (.ref a3), (.int p4), (.int p5), (.int p6)] ∧ Z.Warmed39 U.vm ∧ U.heap = h0) (fun _ _ _ _ _ => True) (fun _ U o U' => ∃ v L, o = .returned v ∧ (Q_rm2 Z a1 a2 a3 p4 p5 p6 h0 n0) v U'.heap L ∧ FrameEnd U o U' L ({ frames := 2, cells := 0, slots := 0, locals := 24 } : Room).cells ({ frames := 2, cells := 0, slots := 0, locals := 24 } : Room).slots) := by
  refine MetFree.of_bodySF (plainFor_of_name pn_1) hisR ?_
  intro p e s m args below meth c s₁ Bd hml0 hP hK
  obtain ⟨rfl, hZ, hh⟩ := hP
  have hx := Bd.exec
  have hby := Bd.bytes
  have hml : c.maxLocals = 6 := hml0
  have hown : s.vm.findClass "com/example/cairn/cairn/RunContainer" = some m.cls := findClass_of_methodNamed Bd.named
  have hnm := (name_of_methodNamed Bd.named Bd.method).1
  have X0 : Stand p l e ({ frames := 2, cells := 0, slots := 0, locals := 24 } : Room) s m #[(.ref a1), (.ref a2), (.ref a3), (.int p4), (.int p5), (.int p6)] below meth c s₁ [] 0 0 := Stand.of_body Bd
  have e0 : s₁.heap = h0 := by rw [← hh, Bd.state]; rfl
  have N0 := Fr.nil n0
  show WP p e below (GG (Q_rm2 Z a1 a2 a3 p4 p5 p6 h0 n0) s ({ frames := 2, cells := 0, slots := 0, locals := 24 } : Room).cells ({ frames := 2, cells := 0, slots := 0, locals := 24 } : Room).slots) (s₁.setTop (entryFrame m #[(.ref a1), (.ref a2), (.ref a3), (.int p4), (.int p5), (.int p6)] 6))
  rw [ef_rm2 m a1 a2 a3 p4 p5 p6]
  show WP p e below _ (s₁.setTop (mkF m 0 #[.val (.ref a1), .val (.ref a2), .val (.ref a3), .val (.int p4), .val (.int p5), .val (.int p6)] []))
  refine own_go (fun t_ k => XS.aloadN X0.here hx rfl (hb hby d2_0) rfl rfl k) ?_
  show WP p e below _ (s₁.setTop (mkF m 1 #[.val (.ref a1), .val (.ref a2), .val (.ref a3), .val (.int p4), .val (.int p5), .val (.int p6)] [(.ref a1)]))
  obtain ⟨_, _, ⟨T1, L1, k1, n1⟩, -, X1, ⟨Lc1, hQ1, l1, y1, z1⟩, st1⟩ := X0.specialBack hx (y := (⟨"com/example/cairn/cairn/Container", "<init>", "()V"⟩ : MethodName)) rfl hown (mvT hZ (hw _ (List.mem_of_getElem? (i := 14) rfl))) (mvT hZ (hw _ (List.mem_of_getElem? (i := 15) rfl))) (mvT hZ (hw _ (List.mem_of_getElem? (i := 18) rfl))) (by decide) (backOf (W := 0) (rm3 l Z a0 hw [] a1 h0 n0) hZ (hw _ (List.mem_of_getElem? (i := 18) rfl)) (hw _ (List.mem_of_getElem? (i := 17) rfl)) (by decide) (by decide)) (g := (mkF m 1 #[.val (.ref a1), .val (.ref a2), .val (.ref a3), .val (.int p4), .val (.int p5), .val (.int p6)] [(.ref a1)])) rfl (by rw [hml]; rfl) (Steps.refl _) (a := a1) (argsL := []) (rest := []) (lenOf pd_0 rfl) rfl (by show 2 * 0 + _ ≤ _; exact Nat.le_of_eq rfl) (hb hby d2_1) (fun _ _ => ⟨rfl, e0, (by decide : 0 + 0 ≤ _), (by decide : 0 + 0 ≤ _)⟩)
  dsimp only [Pt.U, Pt.locs, Pt.cells, Pt.slots] at X1 l1 y1 z1 st1 hQ1
  subst l1 y1 z1
  obtain ⟨rfl, N1q, e1⟩ := hQ1
  have N1 := Fr.app N0 N1q
  replace X1 : Stand p l e ({ frames := 2, cells := 0, slots := 0, locals := 24 } : Room) s m _ below meth c T1 _ 0 0 := X1
  refine own_go (fun t_ k => st1.trans k) ?_
  show WP p e below _ (T1.setTop (mkF m 4 #[.val (.ref a1), .val (.ref a2), .val (.ref a3), .val (.int p4), .val (.int p5), .val (.int p6)] []))
  refine own_go (fun t_ k => XS.aloadN X1.here hx rfl (hb hby d2_4) rfl rfl k) ?_
  show WP p e below _ (T1.setTop (mkF m 5 #[.val (.ref a1), .val (.ref a2), .val (.ref a3), .val (.int p4), .val (.int p5), .val (.int p6)] [(.ref a1)]))
  refine own_go (fun t_ k => XS.aloadN X1.here hx rfl (hb hby d2_5) rfl rfl k) ?_
  show WP p e below _ (T1.setTop (mkF m 6 #[.val (.ref a1), .val (.ref a2), .val (.ref a3), .val (.int p4), .val (.int p5), .val (.int p6)] [(.ref a2), (.ref a1)]))
  obtain ⟨T2, h2, X2, e2, W2, st2⟩ := putF X1 hx hZ hown (host := "") (Or.inl (hw _ (List.mem_of_getElem? (i := 22) rfl))) Via.refl e1 F_0 E_a (Or.inl (hw _ (List.mem_of_getElem? (i := 23) rfl))) (hw _ (List.mem_of_getElem? (i := 9) rfl)) (ty := (.array .char)) (by decide) rfl rfl (g := (mkF m 6 #[.val (.ref a1), .val (.ref a2), .val (.ref a3), .val (.int p4), .val (.int p5), .val (.int p6)] [(.ref a2), (.ref a1)])) rfl rfl (hb hby d2_6)
  refine own_go st2 ?_
  have Fw2 := F_0.same W2
  have N2 := Fr.snoc X2 N1 g_a
  have K2 : Keep h0 h2 [a1] := (Keep.refl h0 [a1]).wr W2 (Or.inl (List.mem_of_getElem? (i := 0) rfl))
  show WP p e below _ (T2.setTop (mkF m 9 #[.val (.ref a1), .val (.ref a2), .val (.ref a3), .val (.int p4), .val (.int p5), .val (.int p6)] []))
  refine own_go (fun t_ k => XS.aloadN X2.here hx rfl (hb hby d2_9) rfl rfl k) ?_
  show WP p e below _ (T2.setTop (mkF m 10 #[.val (.ref a1), .val (.ref a2), .val (.ref a3), .val (.int p4), .val (.int p5), .val (.int p6)] [(.ref a1)]))
  refine own_go (fun t_ k => XS.aloadN X2.here hx rfl (hb hby d2_10) rfl rfl k) ?_
  show WP p e below _ (T2.setTop (mkF m 11 #[.val (.ref a1), .val (.ref a2), .val (.ref a3), .val (.int p4), .val (.int p5), .val (.int p6)] [(.ref a3), (.ref a1)]))
  obtain ⟨T3, h3, X3, e3, W3, st3⟩ := putF X2 hx hZ hown (host := "") (Or.inl (hw _ (List.mem_of_getElem? (i := 24) rfl))) Via.refl e2 (F_1.other W2 (Or.inr (slot_ne (Or.inl (hw _ (List.mem_of_getElem? (i := 25) rfl))) (Or.inl (hw _ (List.mem_of_getElem? (i := 23) rfl))) (by decide) (t := (.array .char)) (t' := (.array .char)) (by decide) (by decide)))) (E_a.wr W2) (Or.inl (hw _ (List.mem_of_getElem? (i := 25) rfl))) (hw _ (List.mem_of_getElem? (i := 9) rfl)) (ty := (.array .char)) (by decide) rfl rfl (g := (mkF m 11 #[.val (.ref a1), .val (.ref a2), .val (.ref a3), .val (.int p4), .val (.int p5), .val (.int p6)] [(.ref a3), (.ref a1)])) rfl rfl (hb hby d2_11)
  refine own_go st3 ?_
  have Fw3 := (F_1.other W2 (Or.inr (slot_ne (Or.inl (hw _ (List.mem_of_getElem? (i := 25) rfl))) (Or.inl (hw _ (List.mem_of_getElem? (i := 23) rfl))) (by decide) (t := (.array .char)) (t' := (.array .char)) (by decide) (by decide)))).same W3
  have N3 := Fr.snoc X3 N2 g_a
  have K3 : Keep h0 h3 [a1] := K2.wr W3 (Or.inl (List.mem_of_getElem? (i := 0) rfl))
  show WP p e below _ (T3.setTop (mkF m 14 #[.val (.ref a1), .val (.ref a2), .val (.ref a3), .val (.int p4), .val (.int p5), .val (.int p6)] []))
  refine own_go (fun t_ k => XS.aloadN X3.here hx rfl (hb hby d2_14) rfl rfl k) ?_
  show WP p e below _ (T3.setTop (mkF m 15 #[.val (.ref a1), .val (.ref a2), .val (.ref a3), .val (.int p4), .val (.int p5), .val (.int p6)] [(.ref a1)]))
  refine own_go (fun t_ k => XS.iloadN X3.here hx rfl (hb hby d2_15) rfl k) ?_
  show WP p e below _ (T3.setTop (mkF m 16 #[.val (.ref a1), .val (.ref a2), .val (.ref a3), .val (.int p4), .val (.int p5), .val (.int p6)] [(.int p4), (.ref a1)]))
  obtain ⟨T4, h4, X4, e4, W4, st4⟩ := putF X3 hx hZ hown (host := "") (Or.inl (hw _ (List.mem_of_getElem? (i := 26) rfl))) Via.refl e3 ((F_2.other W2 (Or.inr (slot_ne (Or.inl (hw _ (List.mem_of_getElem? (i := 27) rfl))) (Or.inl (hw _ (List.mem_of_getElem? (i := 23) rfl))) (by decide) (t := .int) (t' := (.array .char)) (by decide) (by decide)))).other W3 (Or.inr (slot_ne (Or.inl (hw _ (List.mem_of_getElem? (i := 27) rfl))) (Or.inl (hw _ (List.mem_of_getElem? (i := 25) rfl))) (by decide) (t := .int) (t' := (.array .char)) (by decide) (by decide)))) ((E_a.wr W2).wr W3) (Or.inl (hw _ (List.mem_of_getElem? (i := 27) rfl))) (hw _ (List.mem_of_getElem? (i := 9) rfl)) (ty := .int) (by decide) rfl rfl (g := (mkF m 16 #[.val (.ref a1), .val (.ref a2), .val (.ref a3), .val (.int p4), .val (.int p5), .val (.int p6)] [(.int p4), (.ref a1)])) rfl rfl (hb hby d2_16)
  refine own_go st4 ?_
  have Fw4 := ((F_2.other W2 (Or.inr (slot_ne (Or.inl (hw _ (List.mem_of_getElem? (i := 27) rfl))) (Or.inl (hw _ (List.mem_of_getElem? (i := 23) rfl))) (by decide) (t := .int) (t' := (.array .char)) (by decide) (by decide)))).other W3 (Or.inr (slot_ne (Or.inl (hw _ (List.mem_of_getElem? (i := 27) rfl))) (Or.inl (hw _ (List.mem_of_getElem? (i := 25) rfl))) (by decide) (t := .int) (t' := (.array .char)) (by decide) (by decide)))).same W4
  have N4 := Fr.snoc X4 N3 g_a
  have K4 : Keep h0 h4 [a1] := K3.wr W4 (Or.inl (List.mem_of_getElem? (i := 0) rfl))
  show WP p e below _ (T4.setTop (mkF m 19 #[.val (.ref a1), .val (.ref a2), .val (.ref a3), .val (.int p4), .val (.int p5), .val (.int p6)] []))
  refine own_go (fun t_ k => XS.aloadN X4.here hx rfl (hb hby d2_19) rfl rfl k) ?_
  show WP p e below _ (T4.setTop (mkF m 20 #[.val (.ref a1), .val (.ref a2), .val (.ref a3), .val (.int p4), .val (.int p5), .val (.int p6)] [(.ref a1)]))
  refine own_go (fun t_ k => XS.iload X4.here hx rfl (hb hby d2_20) rfl k) ?_
  show WP p e below _ (T4.setTop (mkF m 22 #[.val (.ref a1), .val (.ref a2), .val (.ref a3), .val (.int p4), .val (.int p5), .val (.int p6)] [(.int p5), (.ref a1)]))
  obtain ⟨T5, h5, X5, e5, W5, st5⟩ := putF X4 hx hZ hown (host := "") (Or.inl (hw _ (List.mem_of_getElem? (i := 28) rfl))) Via.refl e4 (((F_3.other W2 (Or.inr (slot_ne (Or.inl (hw _ (List.mem_of_getElem? (i := 29) rfl))) (Or.inl (hw _ (List.mem_of_getElem? (i := 23) rfl))) (by decide) (t := .int) (t' := (.array .char)) (by decide) (by decide)))).other W3 (Or.inr (slot_ne (Or.inl (hw _ (List.mem_of_getElem? (i := 29) rfl))) (Or.inl (hw _ (List.mem_of_getElem? (i := 25) rfl))) (by decide) (t := .int) (t' := (.array .char)) (by decide) (by decide)))).other W4 (Or.inr (slot_ne (Or.inl (hw _ (List.mem_of_getElem? (i := 29) rfl))) (Or.inl (hw _ (List.mem_of_getElem? (i := 27) rfl))) (by decide) (t := .int) (t' := .int) (by decide) (by decide)))) (((E_a.wr W2).wr W3).wr W4) (Or.inl (hw _ (List.mem_of_getElem? (i := 29) rfl))) (hw _ (List.mem_of_getElem? (i := 9) rfl)) (ty := .int) (by decide) rfl rfl (g := (mkF m 22 #[.val (.ref a1), .val (.ref a2), .val (.ref a3), .val (.int p4), .val (.int p5), .val (.int p6)] [(.int p5), (.ref a1)])) rfl rfl (hb hby d2_22)
  refine own_go st5 ?_
  have Fw5 := (((F_3.other W2 (Or.inr (slot_ne (Or.inl (hw _ (List.mem_of_getElem? (i := 29) rfl))) (Or.inl (hw _ (List.mem_of_getElem? (i := 23) rfl))) (by decide) (t := .int) (t' := (.array .char)) (by decide) (by decide)))).other W3 (Or.inr (slot_ne (Or.inl (hw _ (List.mem_of_getElem? (i := 29) rfl))) (Or.inl (hw _ (List.mem_of_getElem? (i := 25) rfl))) (by decide) (t := .int) (t' := (.array .char)) (by decide) (by decide)))).other W4 (Or.inr (slot_ne (Or.inl (hw _ (List.mem_of_getElem? (i := 29) rfl))) (Or.inl (hw _ (List.mem_of_getElem? (i := 27) rfl))) (by decide) (t := .int) (t' := .int) (by decide) (by decide)))).same W5
  have N5 := Fr.snoc X5 N4 g_a
  have K5 : Keep h0 h5 [a1] := K4.wr W5 (Or.inl (List.mem_of_getElem? (i := 0) rfl))
  show WP p e below _ (T5.setTop (mkF m 25 #[.val (.ref a1), .val (.ref a2), .val (.ref a3), .val (.int p4), .val (.int p5), .val (.int p6)] []))
  refine own_go (fun t_ k => XS.aloadN X5.here hx rfl (hb hby d2_25) rfl rfl k) ?_
  show WP p e below _ (T5.setTop (mkF m 26 #[.val (.ref a1), .val (.ref a2), .val (.ref a3), .val (.int p4), .val (.int p5), .val (.int p6)] [(.ref a1)]))
  refine own_go (fun t_ k => XS.iload X5.here hx rfl (hb hby d2_26) rfl k) ?_
  show WP p e below _ (T5.setTop (mkF m 28 #[.val (.ref a1), .val (.ref a2), .val (.ref a3), .val (.int p4), .val (.int p5), .val (.int p6)] [(.int p6), (.ref a1)]))
  obtain ⟨T6, h6, X6, e6, W6, st6⟩ := putFN X5 hx hZ hown (hw _ (List.mem_of_getElem? (i := 30) rfl)) Via.refl e5 ((((F_4.other W2 (Or.inr (slot_ne (Or.inr (hw _ (List.mem_of_getElem? (i := 31) rfl))) (Or.inl (hw _ (List.mem_of_getElem? (i := 23) rfl))) (by decide) (t := .boolean) (t' := (.array .char)) (by decide) (by decide)))).other W3 (Or.inr (slot_ne (Or.inr (hw _ (List.mem_of_getElem? (i := 31) rfl))) (Or.inl (hw _ (List.mem_of_getElem? (i := 25) rfl))) (by decide) (t := .boolean) (t' := (.array .char)) (by decide) (by decide)))).other W4 (Or.inr (slot_ne (Or.inr (hw _ (List.mem_of_getElem? (i := 31) rfl))) (Or.inl (hw _ (List.mem_of_getElem? (i := 27) rfl))) (by decide) (t := .boolean) (t' := .int) (by decide) (by decide)))).other W5 (Or.inr (slot_ne (Or.inr (hw _ (List.mem_of_getElem? (i := 31) rfl))) (Or.inl (hw _ (List.mem_of_getElem? (i := 29) rfl))) (by decide) (t := .boolean) (t' := .int) (by decide) (by decide)))) ((((E_a.wr W2).wr W3).wr W4).wr W5) (Or.inr ⟨(hw _ (List.mem_of_getElem? (i := 31) rfl)), rfl, hnm⟩) (hw _ (List.mem_of_getElem? (i := 9) rfl)) (ty := .boolean) (v' := (.int (p6 &&& 1))) (by decide) rfl (fits_nar_bool _) (g := (mkF m 28 #[.val (.ref a1), .val (.ref a2), .val (.ref a3), .val (.int p4), .val (.int p5), .val (.int p6)] [(.int p6), (.ref a1)])) rfl rfl (hb hby d2_28)
  refine own_go st6 ?_
  have Fw6 := ((((F_4.other W2 (Or.inr (slot_ne (Or.inr (hw _ (List.mem_of_getElem? (i := 31) rfl))) (Or.inl (hw _ (List.mem_of_getElem? (i := 23) rfl))) (by decide) (t := .boolean) (t' := (.array .char)) (by decide) (by decide)))).other W3 (Or.inr (slot_ne (Or.inr (hw _ (List.mem_of_getElem? (i := 31) rfl))) (Or.inl (hw _ (List.mem_of_getElem? (i := 25) rfl))) (by decide) (t := .boolean) (t' := (.array .char)) (by decide) (by decide)))).other W4 (Or.inr (slot_ne (Or.inr (hw _ (List.mem_of_getElem? (i := 31) rfl))) (Or.inl (hw _ (List.mem_of_getElem? (i := 27) rfl))) (by decide) (t := .boolean) (t' := .int) (by decide) (by decide)))).other W5 (Or.inr (slot_ne (Or.inr (hw _ (List.mem_of_getElem? (i := 31) rfl))) (Or.inl (hw _ (List.mem_of_getElem? (i := 29) rfl))) (by decide) (t := .boolean) (t' := .int) (by decide) (by decide)))).same W6
  have N6 := Fr.snoc X6 N5 g_a
  have K6 : Keep h0 h6 [a1] := K5.wr W6 (Or.inl (List.mem_of_getElem? (i := 0) rfl))
  show WP p e below _ (T6.setTop (mkF m 31 #[.val (.ref a1), .val (.ref a2), .val (.ref a3), .val (.int p4), .val (.int p5), .val (.int p6)] []))
  exact own_ret0 X6 hx Bd.notSynchronized Bd.returns (hb hby d2_31) (by rw [e6]; exact ⟨rfl, N6, K6, (((((E_a.wr W2).wr W3).wr W4).wr W5).wr W6), ((((Fw2.other W3 (Or.inr (slot_ne (Or.inl (hw _ (List.mem_of_getElem? (i := 23) rfl))) (Or.inl (hw _ (List.mem_of_getElem? (i := 25) rfl))) (by decide) (t := (.array .char)) (t' := (.array .char)) (by decide) (by decide)))).other W4 (Or.inr (slot_ne (Or.inl (hw _ (List.mem_of_getElem? (i := 23) rfl))) (Or.inl (hw _ (List.mem_of_getElem? (i := 27) rfl))) (by decide) (t := (.array .char)) (t' := .int) (by decide) (by decide)))).other W5 (Or.inr (slot_ne (Or.inl (hw _ (List.mem_of_getElem? (i := 23) rfl))) (Or.inl (hw _ (List.mem_of_getElem? (i := 29) rfl))) (by decide) (t := (.array .char)) (t' := .int) (by decide) (by decide)))).other W6 (Or.inr (slot_ne (Or.inl (hw _ (List.mem_of_getElem? (i := 23) rfl))) (Or.inr (hw _ (List.mem_of_getElem? (i := 31) rfl))) (by decide) (t := (.array .char)) (t' := .boolean) (by decide) (by decide)))), (((Fw3.other W4 (Or.inr (slot_ne (Or.inl (hw _ (List.mem_of_getElem? (i := 25) rfl))) (Or.inl (hw _ (List.mem_of_getElem? (i := 27) rfl))) (by decide) (t := (.array .char)) (t' := .int) (by decide) (by decide)))).other W5 (Or.inr (slot_ne (Or.inl (hw _ (List.mem_of_getElem? (i := 25) rfl))) (Or.inl (hw _ (List.mem_of_getElem? (i := 29) rfl))) (by decide) (t := (.array .char)) (t' := .int) (by decide) (by decide)))).other W6 (Or.inr (slot_ne (Or.inl (hw _ (List.mem_of_getElem? (i := 25) rfl))) (Or.inr (hw _ (List.mem_of_getElem? (i := 31) rfl))) (by decide) (t := (.array .char)) (t' := .boolean) (by decide) (by decide)))), ((Fw4.other W5 (Or.inr (slot_ne (Or.inl (hw _ (List.mem_of_getElem? (i := 27) rfl))) (Or.inl (hw _ (List.mem_of_getElem? (i := 29) rfl))) (by decide) (t := .int) (t' := .int) (by decide) (by decide)))).other W6 (Or.inr (slot_ne (Or.inl (hw _ (List.mem_of_getElem? (i := 27) rfl))) (Or.inr (hw _ (List.mem_of_getElem? (i := 31) rfl))) (by decide) (t := .int) (t' := .boolean) (by decide) (by decide))))⟩) (by decide) (by decide)
def f5 (p1 : Int32) (p2 : Int32) (p3 : Int32) : Int32 := (if (1 : Int32) < p3 then (if (2 : Int32) < p3 then (if (3 : Int32) < p3 then (((31 : Int32) * (((31 : Int32) * (((31 : Int32) * (((31 : Int32) * p1) + p2)) + (p2 + (1 : Int32)))) + (p2 + (2 : Int32)))) + (p2 + (3 : Int32))) else (((31 : Int32) * (((31 : Int32) * (((31 : Int32) * p1) + p2)) + (p2 + (1 : Int32)))) + (p2 + (2 : Int32)))) else (if (3 : Int32) < p3 then (((31 : Int32) * (((31 : Int32) * (((31 : Int32) * p1) + p2)) + (p2 + (1 : Int32)))) + (p2 + (3 : Int32))) else (((31 : Int32) * (((31 : Int32) * p1) + p2)) + (p2 + (1 : Int32))))) else (if (2 : Int32) < p3 then (if (3 : Int32) < p3 then (((31 : Int32) * (((31 : Int32) * (((31 : Int32) * p1) + p2)) + (p2 + (2 : Int32)))) + (p2 + (3 : Int32))) else (((31 : Int32) * (((31 : Int32) * p1) + p2)) + (p2 + (2 : Int32)))) else (if (3 : Int32) < p3 then (((31 : Int32) * (((31 : Int32) * p1) + p2)) + (p2 + (3 : Int32))) else (((31 : Int32) * p1) + p2))))
theorem d5_0 : decode method_2_code 0 = .ok (.bipush 31, 2) := by decide +kernel
theorem d5_2 : decode method_2_code 2 = .ok (.iload_n 0, 1) := by decide +kernel
theorem d5_3 : decode method_2_code 3 = .ok (.imul, 1) := by decide +kernel
theorem d5_4 : decode method_2_code 4 = .ok (.iload_n 1, 1) := by decide +kernel
theorem d5_5 : decode method_2_code 5 = .ok (.iadd, 1) := by decide +kernel
theorem d5_6 : decode method_2_code 6 = .ok (.istore_n 3, 1) := by decide +kernel
theorem d5_7 : decode method_2_code 7 = .ok (.iload_n 2, 1) := by decide +kernel
theorem d5_8 : decode method_2_code 8 = .ok (.iconst 1, 1) := by decide +kernel
theorem d5_9 : decode method_2_code 9 = .ok (.if_icmp .le 12, 3) := by decide +kernel
theorem d5_12 : decode method_2_code 12 = .ok (.bipush 31, 2) := by decide +kernel
theorem d5_14 : decode method_2_code 14 = .ok (.iload_n 3, 1) := by decide +kernel
theorem d5_15 : decode method_2_code 15 = .ok (.imul, 1) := by decide +kernel
theorem d5_16 : decode method_2_code 16 = .ok (.iload_n 1, 1) := by decide +kernel
theorem d5_17 : decode method_2_code 17 = .ok (.iconst 1, 1) := by decide +kernel
theorem d5_18 : decode method_2_code 18 = .ok (.iadd, 1) := by decide +kernel
theorem d5_19 : decode method_2_code 19 = .ok (.iadd, 1) := by decide +kernel
theorem d5_20 : decode method_2_code 20 = .ok (.istore_n 3, 1) := by decide +kernel
theorem d5_21 : decode method_2_code 21 = .ok (.iload_n 2, 1) := by decide +kernel
theorem d5_22 : decode method_2_code 22 = .ok (.iconst 2, 1) := by decide +kernel
theorem d5_23 : decode method_2_code 23 = .ok (.if_icmp .le 12, 3) := by decide +kernel
theorem d5_26 : decode method_2_code 26 = .ok (.bipush 31, 2) := by decide +kernel
theorem d5_28 : decode method_2_code 28 = .ok (.iload_n 3, 1) := by decide +kernel
theorem d5_29 : decode method_2_code 29 = .ok (.imul, 1) := by decide +kernel
theorem d5_30 : decode method_2_code 30 = .ok (.iload_n 1, 1) := by decide +kernel
theorem d5_31 : decode method_2_code 31 = .ok (.iconst 2, 1) := by decide +kernel
theorem d5_32 : decode method_2_code 32 = .ok (.iadd, 1) := by decide +kernel
theorem d5_33 : decode method_2_code 33 = .ok (.iadd, 1) := by decide +kernel
theorem d5_34 : decode method_2_code 34 = .ok (.istore_n 3, 1) := by decide +kernel
theorem d5_35 : decode method_2_code 35 = .ok (.iload_n 2, 1) := by decide +kernel
theorem d5_36 : decode method_2_code 36 = .ok (.iconst 3, 1) := by decide +kernel
theorem d5_37 : decode method_2_code 37 = .ok (.if_icmp .le 12, 3) := by decide +kernel
theorem d5_40 : decode method_2_code 40 = .ok (.bipush 31, 2) := by decide +kernel
theorem d5_42 : decode method_2_code 42 = .ok (.iload_n 3, 1) := by decide +kernel
theorem d5_43 : decode method_2_code 43 = .ok (.imul, 1) := by decide +kernel
theorem d5_44 : decode method_2_code 44 = .ok (.iload_n 1, 1) := by decide +kernel
theorem d5_45 : decode method_2_code 45 = .ok (.iconst 3, 1) := by decide +kernel
theorem d5_46 : decode method_2_code 46 = .ok (.iadd, 1) := by decide +kernel
theorem d5_47 : decode method_2_code 47 = .ok (.iadd, 1) := by decide +kernel
theorem d5_48 : decode method_2_code 48 = .ok (.istore_n 3, 1) := by decide +kernel
theorem d5_49 : decode method_2_code 49 = .ok (.iload_n 3, 1) := by decide +kernel
theorem d5_50 : decode method_2_code 50 = .ok (.ireturn, 1) := by decide +kernel
theorem pn_2 : plainName "com/example/cairn/cairn/RunContainerValuesHashPinLaw" = true := by first | (simp [plainName, overriddenIn]; done) | decide +kernel
theorem ef_rm5 (m : MethodId) (x0 : Int32) (x1 : Int32) (x2 : Int32) : entryFrame m #[(.int x0), (.int x1), (.int x2)] 4 = mkF m 0 #[.val (.int x0), .val (.int x1), .val (.int x2), .unset] [] := by first | (simp [entryFrame, mkF, argsToLocals, Value.category]; done) | rfl
set_option maxRecDepth 65536 in
set_option maxHeartbeats 40000000 in
theorem rm5 (l : Launch) (Z : State) (a0 : Array Value) (hw : ∀ d ∈ tables_1, d.before a0 Z = true) (ws : List Jvm.Cond) (p1 : Int32) (p2 : Int32) (p3 : Int32) (h0 : Heap) (n0 : Nat) :
    MetFree l (⟨"com/example/cairn/cairn/RunContainerValuesHashPinLaw", "addRun", "(III)I"⟩ : MethodName) (head1 (Jvm.Cond.code (⟨"com/example/cairn/cairn/RunContainerValuesHashPinLaw", "addRun", "(III)I"⟩ : MethodName) method_2_code 4 (some .int) :: ws) ({ frames := 0, cells := 0, slots := 0, locals := 0 } : Room)) (fun a U => a = #[(.int p1), (.int p2), (.int p3)] ∧ Z.Warmed39 U.vm ∧ U.heap = h0) (fun _ _ _ _ _ => True) (fun _ U o U' => ∃ v L, o = .returned v ∧ (PQ h0 n0 (.int (f5 p1 p2 p3))) v U'.heap L ∧ FrameEnd U o U' L ({ frames := 0, cells := 0, slots := 0, locals := 0 } : Room).cells ({ frames := 0, cells := 0, slots := 0, locals := 0 } : Room).slots) := by
  refine MetFree.of_bodySF (plainFor_of_name pn_2) hisR ?_
  intro p e s m args below meth c s₁ Bd hml0 hP hK
  obtain ⟨rfl, hZ, hh⟩ := hP
  have hx := Bd.exec
  have hby := Bd.bytes
  have hml : c.maxLocals = 4 := hml0
  have hown : s.vm.findClass "com/example/cairn/cairn/RunContainerValuesHashPinLaw" = some m.cls := findClass_of_methodNamed Bd.named
  have hnm := (name_of_methodNamed Bd.named Bd.method).1
  have X0 : Stand p l e ({ frames := 0, cells := 0, slots := 0, locals := 0 } : Room) s m #[(.int p1), (.int p2), (.int p3)] below meth c s₁ [] 0 0 := Stand.of_body Bd
  have e0 : s₁.heap = h0 := by rw [← hh, Bd.state]; rfl
  have N0 := Fr.nil n0
  show WP p e below (GG (PQ h0 n0 (.int (f5 p1 p2 p3))) s ({ frames := 0, cells := 0, slots := 0, locals := 0 } : Room).cells ({ frames := 0, cells := 0, slots := 0, locals := 0 } : Room).slots) (s₁.setTop (entryFrame m #[(.int p1), (.int p2), (.int p3)] 4))
  rw [ef_rm5 m p1 p2 p3]
  show WP p e below _ (s₁.setTop (mkF m 0 #[.val (.int p1), .val (.int p2), .val (.int p3), .unset] []))
  refine own_go (fun t_ k => XS.bipush X0.here hx rfl (hb hby d5_0) k) ?_
  show WP p e below _ (s₁.setTop (mkF m 2 #[.val (.int p1), .val (.int p2), .val (.int p3), .unset] [(.int (31 : Int32))]))
  refine own_go (fun t_ k => XS.iloadN X0.here hx rfl (hb hby d5_2) rfl k) ?_
  show WP p e below _ (s₁.setTop (mkF m 3 #[.val (.int p1), .val (.int p2), .val (.int p3), .unset] [(.int p1), (.int (31 : Int32))]))
  refine own_go (fun t_ k => XS.imul X0.here hx rfl (hb hby d5_3) rfl k) ?_
  show WP p e below _ (s₁.setTop (mkF m 4 #[.val (.int p1), .val (.int p2), .val (.int p3), .unset] [(.int ((31 : Int32) * p1))]))
  refine own_go (fun t_ k => XS.iloadN X0.here hx rfl (hb hby d5_4) rfl k) ?_
  show WP p e below _ (s₁.setTop (mkF m 5 #[.val (.int p1), .val (.int p2), .val (.int p3), .unset] [(.int p2), (.int ((31 : Int32) * p1))]))
  refine own_go (fun t_ k => XS.iadd X0.here hx rfl (hb hby d5_5) rfl k) ?_
  show WP p e below _ (s₁.setTop (mkF m 6 #[.val (.int p1), .val (.int p2), .val (.int p3), .unset] [(.int (((31 : Int32) * p1) + p2))]))
  refine own_go (fun t_ k => XS.istoreN X0.here hx rfl (hb hby d5_6) rfl (l' := #[.val (.int p1), .val (.int p2), .val (.int p3), .val (.int (((31 : Int32) * p1) + p2))]) rfl k) ?_
  show WP p e below _ (s₁.setTop (mkF m 7 #[.val (.int p1), .val (.int p2), .val (.int p3), .val (.int (((31 : Int32) * p1) + p2))] []))
  refine own_go (fun t_ k => XS.iloadN X0.here hx rfl (hb hby d5_7) rfl k) ?_
  show WP p e below _ (s₁.setTop (mkF m 8 #[.val (.int p1), .val (.int p2), .val (.int p3), .val (.int (((31 : Int32) * p1) + p2))] [(.int p3)]))
  refine own_go (fun t_ k => XS.iconst X0.here hx rfl (hb hby d5_8) k) ?_
  show WP p e below _ (s₁.setTop (mkF m 9 #[.val (.int p1), .val (.int p2), .val (.int p3), .val (.int (((31 : Int32) * p1) + p2))] [(.int (1 : Int32)), (.int p3)]))
  by_cases hc9_1 : (1 : Int32) < p3
  · refine own_go (fun t_ k => XS.icmpNo X0.here hx rfl (hb hby d5_9) rfl (tlt hc9_1).2.2.2 k) ?_
    show WP p e below _ (s₁.setTop (mkF m 12 #[.val (.int p1), .val (.int p2), .val (.int p3), .val (.int (((31 : Int32) * p1) + p2))] []))
    refine own_go (fun t_ k => XS.bipush X0.here hx rfl (hb hby d5_12) k) ?_
    show WP p e below _ (s₁.setTop (mkF m 14 #[.val (.int p1), .val (.int p2), .val (.int p3), .val (.int (((31 : Int32) * p1) + p2))] [(.int (31 : Int32))]))
    refine own_go (fun t_ k => XS.iloadN X0.here hx rfl (hb hby d5_14) rfl k) ?_
    show WP p e below _ (s₁.setTop (mkF m 15 #[.val (.int p1), .val (.int p2), .val (.int p3), .val (.int (((31 : Int32) * p1) + p2))] [(.int (((31 : Int32) * p1) + p2)), (.int (31 : Int32))]))
    refine own_go (fun t_ k => XS.imul X0.here hx rfl (hb hby d5_15) rfl k) ?_
    show WP p e below _ (s₁.setTop (mkF m 16 #[.val (.int p1), .val (.int p2), .val (.int p3), .val (.int (((31 : Int32) * p1) + p2))] [(.int ((31 : Int32) * (((31 : Int32) * p1) + p2)))]))
    refine own_go (fun t_ k => XS.iloadN X0.here hx rfl (hb hby d5_16) rfl k) ?_
    show WP p e below _ (s₁.setTop (mkF m 17 #[.val (.int p1), .val (.int p2), .val (.int p3), .val (.int (((31 : Int32) * p1) + p2))] [(.int p2), (.int ((31 : Int32) * (((31 : Int32) * p1) + p2)))]))
    refine own_go (fun t_ k => XS.iconst X0.here hx rfl (hb hby d5_17) k) ?_
    show WP p e below _ (s₁.setTop (mkF m 18 #[.val (.int p1), .val (.int p2), .val (.int p3), .val (.int (((31 : Int32) * p1) + p2))] [(.int (1 : Int32)), (.int p2), (.int ((31 : Int32) * (((31 : Int32) * p1) + p2)))]))
    refine own_go (fun t_ k => XS.iadd X0.here hx rfl (hb hby d5_18) rfl k) ?_
    show WP p e below _ (s₁.setTop (mkF m 19 #[.val (.int p1), .val (.int p2), .val (.int p3), .val (.int (((31 : Int32) * p1) + p2))] [(.int (p2 + (1 : Int32))), (.int ((31 : Int32) * (((31 : Int32) * p1) + p2)))]))
    refine own_go (fun t_ k => XS.iadd X0.here hx rfl (hb hby d5_19) rfl k) ?_
    show WP p e below _ (s₁.setTop (mkF m 20 #[.val (.int p1), .val (.int p2), .val (.int p3), .val (.int (((31 : Int32) * p1) + p2))] [(.int (((31 : Int32) * (((31 : Int32) * p1) + p2)) + (p2 + (1 : Int32))))]))
    refine own_go (fun t_ k => XS.istoreN X0.here hx rfl (hb hby d5_20) rfl (l' := #[.val (.int p1), .val (.int p2), .val (.int p3), .val (.int (((31 : Int32) * (((31 : Int32) * p1) + p2)) + (p2 + (1 : Int32))))]) rfl k) ?_
    show WP p e below _ (s₁.setTop (mkF m 21 #[.val (.int p1), .val (.int p2), .val (.int p3), .val (.int (((31 : Int32) * (((31 : Int32) * p1) + p2)) + (p2 + (1 : Int32))))] []))
    refine own_go (fun t_ k => XS.iloadN X0.here hx rfl (hb hby d5_21) rfl k) ?_
    show WP p e below _ (s₁.setTop (mkF m 22 #[.val (.int p1), .val (.int p2), .val (.int p3), .val (.int (((31 : Int32) * (((31 : Int32) * p1) + p2)) + (p2 + (1 : Int32))))] [(.int p3)]))
    refine own_go (fun t_ k => XS.iconst X0.here hx rfl (hb hby d5_22) k) ?_
    show WP p e below _ (s₁.setTop (mkF m 23 #[.val (.int p1), .val (.int p2), .val (.int p3), .val (.int (((31 : Int32) * (((31 : Int32) * p1) + p2)) + (p2 + (1 : Int32))))] [(.int (2 : Int32)), (.int p3)]))
    by_cases hc23_2 : (2 : Int32) < p3
    · refine own_go (fun t_ k => XS.icmpNo X0.here hx rfl (hb hby d5_23) rfl (tlt hc23_2).2.2.2 k) ?_
      show WP p e below _ (s₁.setTop (mkF m 26 #[.val (.int p1), .val (.int p2), .val (.int p3), .val (.int (((31 : Int32) * (((31 : Int32) * p1) + p2)) + (p2 + (1 : Int32))))] []))
      refine own_go (fun t_ k => XS.bipush X0.here hx rfl (hb hby d5_26) k) ?_
      show WP p e below _ (s₁.setTop (mkF m 28 #[.val (.int p1), .val (.int p2), .val (.int p3), .val (.int (((31 : Int32) * (((31 : Int32) * p1) + p2)) + (p2 + (1 : Int32))))] [(.int (31 : Int32))]))
      refine own_go (fun t_ k => XS.iloadN X0.here hx rfl (hb hby d5_28) rfl k) ?_
      show WP p e below _ (s₁.setTop (mkF m 29 #[.val (.int p1), .val (.int p2), .val (.int p3), .val (.int (((31 : Int32) * (((31 : Int32) * p1) + p2)) + (p2 + (1 : Int32))))] [(.int (((31 : Int32) * (((31 : Int32) * p1) + p2)) + (p2 + (1 : Int32)))), (.int (31 : Int32))]))
      refine own_go (fun t_ k => XS.imul X0.here hx rfl (hb hby d5_29) rfl k) ?_
      show WP p e below _ (s₁.setTop (mkF m 30 #[.val (.int p1), .val (.int p2), .val (.int p3), .val (.int (((31 : Int32) * (((31 : Int32) * p1) + p2)) + (p2 + (1 : Int32))))] [(.int ((31 : Int32) * (((31 : Int32) * (((31 : Int32) * p1) + p2)) + (p2 + (1 : Int32)))))]))
      refine own_go (fun t_ k => XS.iloadN X0.here hx rfl (hb hby d5_30) rfl k) ?_
      show WP p e below _ (s₁.setTop (mkF m 31 #[.val (.int p1), .val (.int p2), .val (.int p3), .val (.int (((31 : Int32) * (((31 : Int32) * p1) + p2)) + (p2 + (1 : Int32))))] [(.int p2), (.int ((31 : Int32) * (((31 : Int32) * (((31 : Int32) * p1) + p2)) + (p2 + (1 : Int32)))))]))
      refine own_go (fun t_ k => XS.iconst X0.here hx rfl (hb hby d5_31) k) ?_
      show WP p e below _ (s₁.setTop (mkF m 32 #[.val (.int p1), .val (.int p2), .val (.int p3), .val (.int (((31 : Int32) * (((31 : Int32) * p1) + p2)) + (p2 + (1 : Int32))))] [(.int (2 : Int32)), (.int p2), (.int ((31 : Int32) * (((31 : Int32) * (((31 : Int32) * p1) + p2)) + (p2 + (1 : Int32)))))]))
      refine own_go (fun t_ k => XS.iadd X0.here hx rfl (hb hby d5_32) rfl k) ?_
      show WP p e below _ (s₁.setTop (mkF m 33 #[.val (.int p1), .val (.int p2), .val (.int p3), .val (.int (((31 : Int32) * (((31 : Int32) * p1) + p2)) + (p2 + (1 : Int32))))] [(.int (p2 + (2 : Int32))), (.int ((31 : Int32) * (((31 : Int32) * (((31 : Int32) * p1) + p2)) + (p2 + (1 : Int32)))))]))
      refine own_go (fun t_ k => XS.iadd X0.here hx rfl (hb hby d5_33) rfl k) ?_
      show WP p e below _ (s₁.setTop (mkF m 34 #[.val (.int p1), .val (.int p2), .val (.int p3), .val (.int (((31 : Int32) * (((31 : Int32) * p1) + p2)) + (p2 + (1 : Int32))))] [(.int (((31 : Int32) * (((31 : Int32) * (((31 : Int32) * p1) + p2)) + (p2 + (1 : Int32)))) + (p2 + (2 : Int32))))]))
      refine own_go (fun t_ k => XS.istoreN X0.here hx rfl (hb hby d5_34) rfl (l' := #[.val (.int p1), .val (.int p2), .val (.int p3), .val (.int (((31 : Int32) * (((31 : Int32) * (((31 : Int32) * p1) + p2)) + (p2 + (1 : Int32)))) + (p2 + (2 : Int32))))]) rfl k) ?_
      show WP p e below _ (s₁.setTop (mkF m 35 #[.val (.int p1), .val (.int p2), .val (.int p3), .val (.int (((31 : Int32) * (((31 : Int32) * (((31 : Int32) * p1) + p2)) + (p2 + (1 : Int32)))) + (p2 + (2 : Int32))))] []))
      refine own_go (fun t_ k => XS.iloadN X0.here hx rfl (hb hby d5_35) rfl k) ?_
      show WP p e below _ (s₁.setTop (mkF m 36 #[.val (.int p1), .val (.int p2), .val (.int p3), .val (.int (((31 : Int32) * (((31 : Int32) * (((31 : Int32) * p1) + p2)) + (p2 + (1 : Int32)))) + (p2 + (2 : Int32))))] [(.int p3)]))
      refine own_go (fun t_ k => XS.iconst X0.here hx rfl (hb hby d5_36) k) ?_
      show WP p e below _ (s₁.setTop (mkF m 37 #[.val (.int p1), .val (.int p2), .val (.int p3), .val (.int (((31 : Int32) * (((31 : Int32) * (((31 : Int32) * p1) + p2)) + (p2 + (1 : Int32)))) + (p2 + (2 : Int32))))] [(.int (3 : Int32)), (.int p3)]))
      by_cases hc37_3 : (3 : Int32) < p3
      · refine own_go (fun t_ k => XS.icmpNo X0.here hx rfl (hb hby d5_37) rfl (tlt hc37_3).2.2.2 k) ?_
        show WP p e below _ (s₁.setTop (mkF m 40 #[.val (.int p1), .val (.int p2), .val (.int p3), .val (.int (((31 : Int32) * (((31 : Int32) * (((31 : Int32) * p1) + p2)) + (p2 + (1 : Int32)))) + (p2 + (2 : Int32))))] []))
        refine own_go (fun t_ k => XS.bipush X0.here hx rfl (hb hby d5_40) k) ?_
        show WP p e below _ (s₁.setTop (mkF m 42 #[.val (.int p1), .val (.int p2), .val (.int p3), .val (.int (((31 : Int32) * (((31 : Int32) * (((31 : Int32) * p1) + p2)) + (p2 + (1 : Int32)))) + (p2 + (2 : Int32))))] [(.int (31 : Int32))]))
        refine own_go (fun t_ k => XS.iloadN X0.here hx rfl (hb hby d5_42) rfl k) ?_
        show WP p e below _ (s₁.setTop (mkF m 43 #[.val (.int p1), .val (.int p2), .val (.int p3), .val (.int (((31 : Int32) * (((31 : Int32) * (((31 : Int32) * p1) + p2)) + (p2 + (1 : Int32)))) + (p2 + (2 : Int32))))] [(.int (((31 : Int32) * (((31 : Int32) * (((31 : Int32) * p1) + p2)) + (p2 + (1 : Int32)))) + (p2 + (2 : Int32)))), (.int (31 : Int32))]))
        refine own_go (fun t_ k => XS.imul X0.here hx rfl (hb hby d5_43) rfl k) ?_
        show WP p e below _ (s₁.setTop (mkF m 44 #[.val (.int p1), .val (.int p2), .val (.int p3), .val (.int (((31 : Int32) * (((31 : Int32) * (((31 : Int32) * p1) + p2)) + (p2 + (1 : Int32)))) + (p2 + (2 : Int32))))] [(.int ((31 : Int32) * (((31 : Int32) * (((31 : Int32) * (((31 : Int32) * p1) + p2)) + (p2 + (1 : Int32)))) + (p2 + (2 : Int32)))))]))
        refine own_go (fun t_ k => XS.iloadN X0.here hx rfl (hb hby d5_44) rfl k) ?_
        show WP p e below _ (s₁.setTop (mkF m 45 #[.val (.int p1), .val (.int p2), .val (.int p3), .val (.int (((31 : Int32) * (((31 : Int32) * (((31 : Int32) * p1) + p2)) + (p2 + (1 : Int32)))) + (p2 + (2 : Int32))))] [(.int p2), (.int ((31 : Int32) * (((31 : Int32) * (((31 : Int32) * (((31 : Int32) * p1) + p2)) + (p2 + (1 : Int32)))) + (p2 + (2 : Int32)))))]))
        refine own_go (fun t_ k => XS.iconst X0.here hx rfl (hb hby d5_45) k) ?_
        show WP p e below _ (s₁.setTop (mkF m 46 #[.val (.int p1), .val (.int p2), .val (.int p3), .val (.int (((31 : Int32) * (((31 : Int32) * (((31 : Int32) * p1) + p2)) + (p2 + (1 : Int32)))) + (p2 + (2 : Int32))))] [(.int (3 : Int32)), (.int p2), (.int ((31 : Int32) * (((31 : Int32) * (((31 : Int32) * (((31 : Int32) * p1) + p2)) + (p2 + (1 : Int32)))) + (p2 + (2 : Int32)))))]))
        refine own_go (fun t_ k => XS.iadd X0.here hx rfl (hb hby d5_46) rfl k) ?_
        show WP p e below _ (s₁.setTop (mkF m 47 #[.val (.int p1), .val (.int p2), .val (.int p3), .val (.int (((31 : Int32) * (((31 : Int32) * (((31 : Int32) * p1) + p2)) + (p2 + (1 : Int32)))) + (p2 + (2 : Int32))))] [(.int (p2 + (3 : Int32))), (.int ((31 : Int32) * (((31 : Int32) * (((31 : Int32) * (((31 : Int32) * p1) + p2)) + (p2 + (1 : Int32)))) + (p2 + (2 : Int32)))))]))
        refine own_go (fun t_ k => XS.iadd X0.here hx rfl (hb hby d5_47) rfl k) ?_
        show WP p e below _ (s₁.setTop (mkF m 48 #[.val (.int p1), .val (.int p2), .val (.int p3), .val (.int (((31 : Int32) * (((31 : Int32) * (((31 : Int32) * p1) + p2)) + (p2 + (1 : Int32)))) + (p2 + (2 : Int32))))] [(.int (((31 : Int32) * (((31 : Int32) * (((31 : Int32) * (((31 : Int32) * p1) + p2)) + (p2 + (1 : Int32)))) + (p2 + (2 : Int32)))) + (p2 + (3 : Int32))))]))
        refine own_go (fun t_ k => XS.istoreN X0.here hx rfl (hb hby d5_48) rfl (l' := #[.val (.int p1), .val (.int p2), .val (.int p3), .val (.int (((31 : Int32) * (((31 : Int32) * (((31 : Int32) * (((31 : Int32) * p1) + p2)) + (p2 + (1 : Int32)))) + (p2 + (2 : Int32)))) + (p2 + (3 : Int32))))]) rfl k) ?_
        show WP p e below _ (s₁.setTop (mkF m 49 #[.val (.int p1), .val (.int p2), .val (.int p3), .val (.int (((31 : Int32) * (((31 : Int32) * (((31 : Int32) * (((31 : Int32) * p1) + p2)) + (p2 + (1 : Int32)))) + (p2 + (2 : Int32)))) + (p2 + (3 : Int32))))] []))
        refine own_go (fun t_ k => XS.iloadN X0.here hx rfl (hb hby d5_49) rfl k) ?_
        show WP p e below _ (s₁.setTop (mkF m 50 #[.val (.int p1), .val (.int p2), .val (.int p3), .val (.int (((31 : Int32) * (((31 : Int32) * (((31 : Int32) * (((31 : Int32) * p1) + p2)) + (p2 + (1 : Int32)))) + (p2 + (2 : Int32)))) + (p2 + (3 : Int32))))] [(.int (((31 : Int32) * (((31 : Int32) * (((31 : Int32) * (((31 : Int32) * p1) + p2)) + (p2 + (1 : Int32)))) + (p2 + (2 : Int32)))) + (p2 + (3 : Int32))))]))
        exact own_retI X0 hx Bd.notSynchronized Bd.returns (hb hby d5_50) (show PQ h0 n0 (.int (f5 p1 p2 p3)) _ _ _ from ⟨by rw [f5, if_pos hc9_1, if_pos hc23_2, if_pos hc37_3], N0, e0⟩) (by decide) (by decide)
      · refine own_go (fun t_ k => XS.icmpYes X0.here hx rfl (pc0 := 37) (pc' := 49) rfl (hb hby d5_37) rfl (flt hc37_3).2.2.2 (by decide) (by decide) k) ?_
        show WP p e below _ (s₁.setTop (mkF m 49 #[.val (.int p1), .val (.int p2), .val (.int p3), .val (.int (((31 : Int32) * (((31 : Int32) * (((31 : Int32) * p1) + p2)) + (p2 + (1 : Int32)))) + (p2 + (2 : Int32))))] []))
        refine own_go (fun t_ k => XS.iloadN X0.here hx rfl (hb hby d5_49) rfl k) ?_
        show WP p e below _ (s₁.setTop (mkF m 50 #[.val (.int p1), .val (.int p2), .val (.int p3), .val (.int (((31 : Int32) * (((31 : Int32) * (((31 : Int32) * p1) + p2)) + (p2 + (1 : Int32)))) + (p2 + (2 : Int32))))] [(.int (((31 : Int32) * (((31 : Int32) * (((31 : Int32) * p1) + p2)) + (p2 + (1 : Int32)))) + (p2 + (2 : Int32))))]))
        exact own_retI X0 hx Bd.notSynchronized Bd.returns (hb hby d5_50) (show PQ h0 n0 (.int (f5 p1 p2 p3)) _ _ _ from ⟨by rw [f5, if_pos hc9_1, if_pos hc23_2, if_neg hc37_3], N0, e0⟩) (by decide) (by decide)
    · refine own_go (fun t_ k => XS.icmpYes X0.here hx rfl (pc0 := 23) (pc' := 35) rfl (hb hby d5_23) rfl (flt hc23_2).2.2.2 (by decide) (by decide) k) ?_
      show WP p e below _ (s₁.setTop (mkF m 35 #[.val (.int p1), .val (.int p2), .val (.int p3), .val (.int (((31 : Int32) * (((31 : Int32) * p1) + p2)) + (p2 + (1 : Int32))))] []))
      refine own_go (fun t_ k => XS.iloadN X0.here hx rfl (hb hby d5_35) rfl k) ?_
      show WP p e below _ (s₁.setTop (mkF m 36 #[.val (.int p1), .val (.int p2), .val (.int p3), .val (.int (((31 : Int32) * (((31 : Int32) * p1) + p2)) + (p2 + (1 : Int32))))] [(.int p3)]))
      refine own_go (fun t_ k => XS.iconst X0.here hx rfl (hb hby d5_36) k) ?_
      show WP p e below _ (s₁.setTop (mkF m 37 #[.val (.int p1), .val (.int p2), .val (.int p3), .val (.int (((31 : Int32) * (((31 : Int32) * p1) + p2)) + (p2 + (1 : Int32))))] [(.int (3 : Int32)), (.int p3)]))
      by_cases hc37_4 : (3 : Int32) < p3
      · refine own_go (fun t_ k => XS.icmpNo X0.here hx rfl (hb hby d5_37) rfl (tlt hc37_4).2.2.2 k) ?_
        show WP p e below _ (s₁.setTop (mkF m 40 #[.val (.int p1), .val (.int p2), .val (.int p3), .val (.int (((31 : Int32) * (((31 : Int32) * p1) + p2)) + (p2 + (1 : Int32))))] []))
        refine own_go (fun t_ k => XS.bipush X0.here hx rfl (hb hby d5_40) k) ?_
        show WP p e below _ (s₁.setTop (mkF m 42 #[.val (.int p1), .val (.int p2), .val (.int p3), .val (.int (((31 : Int32) * (((31 : Int32) * p1) + p2)) + (p2 + (1 : Int32))))] [(.int (31 : Int32))]))
        refine own_go (fun t_ k => XS.iloadN X0.here hx rfl (hb hby d5_42) rfl k) ?_
        show WP p e below _ (s₁.setTop (mkF m 43 #[.val (.int p1), .val (.int p2), .val (.int p3), .val (.int (((31 : Int32) * (((31 : Int32) * p1) + p2)) + (p2 + (1 : Int32))))] [(.int (((31 : Int32) * (((31 : Int32) * p1) + p2)) + (p2 + (1 : Int32)))), (.int (31 : Int32))]))
        refine own_go (fun t_ k => XS.imul X0.here hx rfl (hb hby d5_43) rfl k) ?_
        show WP p e below _ (s₁.setTop (mkF m 44 #[.val (.int p1), .val (.int p2), .val (.int p3), .val (.int (((31 : Int32) * (((31 : Int32) * p1) + p2)) + (p2 + (1 : Int32))))] [(.int ((31 : Int32) * (((31 : Int32) * (((31 : Int32) * p1) + p2)) + (p2 + (1 : Int32)))))]))
        refine own_go (fun t_ k => XS.iloadN X0.here hx rfl (hb hby d5_44) rfl k) ?_
        show WP p e below _ (s₁.setTop (mkF m 45 #[.val (.int p1), .val (.int p2), .val (.int p3), .val (.int (((31 : Int32) * (((31 : Int32) * p1) + p2)) + (p2 + (1 : Int32))))] [(.int p2), (.int ((31 : Int32) * (((31 : Int32) * (((31 : Int32) * p1) + p2)) + (p2 + (1 : Int32)))))]))
        refine own_go (fun t_ k => XS.iconst X0.here hx rfl (hb hby d5_45) k) ?_
        show WP p e below _ (s₁.setTop (mkF m 46 #[.val (.int p1), .val (.int p2), .val (.int p3), .val (.int (((31 : Int32) * (((31 : Int32) * p1) + p2)) + (p2 + (1 : Int32))))] [(.int (3 : Int32)), (.int p2), (.int ((31 : Int32) * (((31 : Int32) * (((31 : Int32) * p1) + p2)) + (p2 + (1 : Int32)))))]))
        refine own_go (fun t_ k => XS.iadd X0.here hx rfl (hb hby d5_46) rfl k) ?_
        show WP p e below _ (s₁.setTop (mkF m 47 #[.val (.int p1), .val (.int p2), .val (.int p3), .val (.int (((31 : Int32) * (((31 : Int32) * p1) + p2)) + (p2 + (1 : Int32))))] [(.int (p2 + (3 : Int32))), (.int ((31 : Int32) * (((31 : Int32) * (((31 : Int32) * p1) + p2)) + (p2 + (1 : Int32)))))]))
        refine own_go (fun t_ k => XS.iadd X0.here hx rfl (hb hby d5_47) rfl k) ?_
        show WP p e below _ (s₁.setTop (mkF m 48 #[.val (.int p1), .val (.int p2), .val (.int p3), .val (.int (((31 : Int32) * (((31 : Int32) * p1) + p2)) + (p2 + (1 : Int32))))] [(.int (((31 : Int32) * (((31 : Int32) * (((31 : Int32) * p1) + p2)) + (p2 + (1 : Int32)))) + (p2 + (3 : Int32))))]))
        refine own_go (fun t_ k => XS.istoreN X0.here hx rfl (hb hby d5_48) rfl (l' := #[.val (.int p1), .val (.int p2), .val (.int p3), .val (.int (((31 : Int32) * (((31 : Int32) * (((31 : Int32) * p1) + p2)) + (p2 + (1 : Int32)))) + (p2 + (3 : Int32))))]) rfl k) ?_
        show WP p e below _ (s₁.setTop (mkF m 49 #[.val (.int p1), .val (.int p2), .val (.int p3), .val (.int (((31 : Int32) * (((31 : Int32) * (((31 : Int32) * p1) + p2)) + (p2 + (1 : Int32)))) + (p2 + (3 : Int32))))] []))
        refine own_go (fun t_ k => XS.iloadN X0.here hx rfl (hb hby d5_49) rfl k) ?_
        show WP p e below _ (s₁.setTop (mkF m 50 #[.val (.int p1), .val (.int p2), .val (.int p3), .val (.int (((31 : Int32) * (((31 : Int32) * (((31 : Int32) * p1) + p2)) + (p2 + (1 : Int32)))) + (p2 + (3 : Int32))))] [(.int (((31 : Int32) * (((31 : Int32) * (((31 : Int32) * p1) + p2)) + (p2 + (1 : Int32)))) + (p2 + (3 : Int32))))]))
        exact own_retI X0 hx Bd.notSynchronized Bd.returns (hb hby d5_50) (show PQ h0 n0 (.int (f5 p1 p2 p3)) _ _ _ from ⟨by rw [f5, if_pos hc9_1, if_neg hc23_2, if_pos hc37_4], N0, e0⟩) (by decide) (by decide)
      · refine own_go (fun t_ k => XS.icmpYes X0.here hx rfl (pc0 := 37) (pc' := 49) rfl (hb hby d5_37) rfl (flt hc37_4).2.2.2 (by decide) (by decide) k) ?_
        show WP p e below _ (s₁.setTop (mkF m 49 #[.val (.int p1), .val (.int p2), .val (.int p3), .val (.int (((31 : Int32) * (((31 : Int32) * p1) + p2)) + (p2 + (1 : Int32))))] []))
        refine own_go (fun t_ k => XS.iloadN X0.here hx rfl (hb hby d5_49) rfl k) ?_
        show WP p e below _ (s₁.setTop (mkF m 50 #[.val (.int p1), .val (.int p2), .val (.int p3), .val (.int (((31 : Int32) * (((31 : Int32) * p1) + p2)) + (p2 + (1 : Int32))))] [(.int (((31 : Int32) * (((31 : Int32) * p1) + p2)) + (p2 + (1 : Int32))))]))
        exact own_retI X0 hx Bd.notSynchronized Bd.returns (hb hby d5_50) (show PQ h0 n0 (.int (f5 p1 p2 p3)) _ _ _ from ⟨by rw [f5, if_pos hc9_1, if_neg hc23_2, if_neg hc37_4], N0, e0⟩) (by decide) (by decide)
  · refine own_go (fun t_ k => XS.icmpYes X0.here hx rfl (pc0 := 9) (pc' := 21) rfl (hb hby d5_9) rfl (flt hc9_1).2.2.2 (by decide) (by decide) k) ?_
    show WP p e below _ (s₁.setTop (mkF m 21 #[.val (.int p1), .val (.int p2), .val (.int p3), .val (.int (((31 : Int32) * p1) + p2))] []))
    refine own_go (fun t_ k => XS.iloadN X0.here hx rfl (hb hby d5_21) rfl k) ?_
    show WP p e below _ (s₁.setTop (mkF m 22 #[.val (.int p1), .val (.int p2), .val (.int p3), .val (.int (((31 : Int32) * p1) + p2))] [(.int p3)]))
    refine own_go (fun t_ k => XS.iconst X0.here hx rfl (hb hby d5_22) k) ?_
    show WP p e below _ (s₁.setTop (mkF m 23 #[.val (.int p1), .val (.int p2), .val (.int p3), .val (.int (((31 : Int32) * p1) + p2))] [(.int (2 : Int32)), (.int p3)]))
    by_cases hc23_5 : (2 : Int32) < p3
    · refine own_go (fun t_ k => XS.icmpNo X0.here hx rfl (hb hby d5_23) rfl (tlt hc23_5).2.2.2 k) ?_
      show WP p e below _ (s₁.setTop (mkF m 26 #[.val (.int p1), .val (.int p2), .val (.int p3), .val (.int (((31 : Int32) * p1) + p2))] []))
      refine own_go (fun t_ k => XS.bipush X0.here hx rfl (hb hby d5_26) k) ?_
      show WP p e below _ (s₁.setTop (mkF m 28 #[.val (.int p1), .val (.int p2), .val (.int p3), .val (.int (((31 : Int32) * p1) + p2))] [(.int (31 : Int32))]))
      refine own_go (fun t_ k => XS.iloadN X0.here hx rfl (hb hby d5_28) rfl k) ?_
      show WP p e below _ (s₁.setTop (mkF m 29 #[.val (.int p1), .val (.int p2), .val (.int p3), .val (.int (((31 : Int32) * p1) + p2))] [(.int (((31 : Int32) * p1) + p2)), (.int (31 : Int32))]))
      refine own_go (fun t_ k => XS.imul X0.here hx rfl (hb hby d5_29) rfl k) ?_
      show WP p e below _ (s₁.setTop (mkF m 30 #[.val (.int p1), .val (.int p2), .val (.int p3), .val (.int (((31 : Int32) * p1) + p2))] [(.int ((31 : Int32) * (((31 : Int32) * p1) + p2)))]))
      refine own_go (fun t_ k => XS.iloadN X0.here hx rfl (hb hby d5_30) rfl k) ?_
      show WP p e below _ (s₁.setTop (mkF m 31 #[.val (.int p1), .val (.int p2), .val (.int p3), .val (.int (((31 : Int32) * p1) + p2))] [(.int p2), (.int ((31 : Int32) * (((31 : Int32) * p1) + p2)))]))
      refine own_go (fun t_ k => XS.iconst X0.here hx rfl (hb hby d5_31) k) ?_
      show WP p e below _ (s₁.setTop (mkF m 32 #[.val (.int p1), .val (.int p2), .val (.int p3), .val (.int (((31 : Int32) * p1) + p2))] [(.int (2 : Int32)), (.int p2), (.int ((31 : Int32) * (((31 : Int32) * p1) + p2)))]))
      refine own_go (fun t_ k => XS.iadd X0.here hx rfl (hb hby d5_32) rfl k) ?_
      show WP p e below _ (s₁.setTop (mkF m 33 #[.val (.int p1), .val (.int p2), .val (.int p3), .val (.int (((31 : Int32) * p1) + p2))] [(.int (p2 + (2 : Int32))), (.int ((31 : Int32) * (((31 : Int32) * p1) + p2)))]))
      refine own_go (fun t_ k => XS.iadd X0.here hx rfl (hb hby d5_33) rfl k) ?_
      show WP p e below _ (s₁.setTop (mkF m 34 #[.val (.int p1), .val (.int p2), .val (.int p3), .val (.int (((31 : Int32) * p1) + p2))] [(.int (((31 : Int32) * (((31 : Int32) * p1) + p2)) + (p2 + (2 : Int32))))]))
      refine own_go (fun t_ k => XS.istoreN X0.here hx rfl (hb hby d5_34) rfl (l' := #[.val (.int p1), .val (.int p2), .val (.int p3), .val (.int (((31 : Int32) * (((31 : Int32) * p1) + p2)) + (p2 + (2 : Int32))))]) rfl k) ?_
      show WP p e below _ (s₁.setTop (mkF m 35 #[.val (.int p1), .val (.int p2), .val (.int p3), .val (.int (((31 : Int32) * (((31 : Int32) * p1) + p2)) + (p2 + (2 : Int32))))] []))
      refine own_go (fun t_ k => XS.iloadN X0.here hx rfl (hb hby d5_35) rfl k) ?_
      show WP p e below _ (s₁.setTop (mkF m 36 #[.val (.int p1), .val (.int p2), .val (.int p3), .val (.int (((31 : Int32) * (((31 : Int32) * p1) + p2)) + (p2 + (2 : Int32))))] [(.int p3)]))
      refine own_go (fun t_ k => XS.iconst X0.here hx rfl (hb hby d5_36) k) ?_
      show WP p e below _ (s₁.setTop (mkF m 37 #[.val (.int p1), .val (.int p2), .val (.int p3), .val (.int (((31 : Int32) * (((31 : Int32) * p1) + p2)) + (p2 + (2 : Int32))))] [(.int (3 : Int32)), (.int p3)]))
      by_cases hc37_6 : (3 : Int32) < p3
      · refine own_go (fun t_ k => XS.icmpNo X0.here hx rfl (hb hby d5_37) rfl (tlt hc37_6).2.2.2 k) ?_
        show WP p e below _ (s₁.setTop (mkF m 40 #[.val (.int p1), .val (.int p2), .val (.int p3), .val (.int (((31 : Int32) * (((31 : Int32) * p1) + p2)) + (p2 + (2 : Int32))))] []))
        refine own_go (fun t_ k => XS.bipush X0.here hx rfl (hb hby d5_40) k) ?_
        show WP p e below _ (s₁.setTop (mkF m 42 #[.val (.int p1), .val (.int p2), .val (.int p3), .val (.int (((31 : Int32) * (((31 : Int32) * p1) + p2)) + (p2 + (2 : Int32))))] [(.int (31 : Int32))]))
        refine own_go (fun t_ k => XS.iloadN X0.here hx rfl (hb hby d5_42) rfl k) ?_
        show WP p e below _ (s₁.setTop (mkF m 43 #[.val (.int p1), .val (.int p2), .val (.int p3), .val (.int (((31 : Int32) * (((31 : Int32) * p1) + p2)) + (p2 + (2 : Int32))))] [(.int (((31 : Int32) * (((31 : Int32) * p1) + p2)) + (p2 + (2 : Int32)))), (.int (31 : Int32))]))
        refine own_go (fun t_ k => XS.imul X0.here hx rfl (hb hby d5_43) rfl k) ?_
        show WP p e below _ (s₁.setTop (mkF m 44 #[.val (.int p1), .val (.int p2), .val (.int p3), .val (.int (((31 : Int32) * (((31 : Int32) * p1) + p2)) + (p2 + (2 : Int32))))] [(.int ((31 : Int32) * (((31 : Int32) * (((31 : Int32) * p1) + p2)) + (p2 + (2 : Int32)))))]))
        refine own_go (fun t_ k => XS.iloadN X0.here hx rfl (hb hby d5_44) rfl k) ?_
        show WP p e below _ (s₁.setTop (mkF m 45 #[.val (.int p1), .val (.int p2), .val (.int p3), .val (.int (((31 : Int32) * (((31 : Int32) * p1) + p2)) + (p2 + (2 : Int32))))] [(.int p2), (.int ((31 : Int32) * (((31 : Int32) * (((31 : Int32) * p1) + p2)) + (p2 + (2 : Int32)))))]))
        refine own_go (fun t_ k => XS.iconst X0.here hx rfl (hb hby d5_45) k) ?_
        show WP p e below _ (s₁.setTop (mkF m 46 #[.val (.int p1), .val (.int p2), .val (.int p3), .val (.int (((31 : Int32) * (((31 : Int32) * p1) + p2)) + (p2 + (2 : Int32))))] [(.int (3 : Int32)), (.int p2), (.int ((31 : Int32) * (((31 : Int32) * (((31 : Int32) * p1) + p2)) + (p2 + (2 : Int32)))))]))
        refine own_go (fun t_ k => XS.iadd X0.here hx rfl (hb hby d5_46) rfl k) ?_
        show WP p e below _ (s₁.setTop (mkF m 47 #[.val (.int p1), .val (.int p2), .val (.int p3), .val (.int (((31 : Int32) * (((31 : Int32) * p1) + p2)) + (p2 + (2 : Int32))))] [(.int (p2 + (3 : Int32))), (.int ((31 : Int32) * (((31 : Int32) * (((31 : Int32) * p1) + p2)) + (p2 + (2 : Int32)))))]))
        refine own_go (fun t_ k => XS.iadd X0.here hx rfl (hb hby d5_47) rfl k) ?_
        show WP p e below _ (s₁.setTop (mkF m 48 #[.val (.int p1), .val (.int p2), .val (.int p3), .val (.int (((31 : Int32) * (((31 : Int32) * p1) + p2)) + (p2 + (2 : Int32))))] [(.int (((31 : Int32) * (((31 : Int32) * (((31 : Int32) * p1) + p2)) + (p2 + (2 : Int32)))) + (p2 + (3 : Int32))))]))
        refine own_go (fun t_ k => XS.istoreN X0.here hx rfl (hb hby d5_48) rfl (l' := #[.val (.int p1), .val (.int p2), .val (.int p3), .val (.int (((31 : Int32) * (((31 : Int32) * (((31 : Int32) * p1) + p2)) + (p2 + (2 : Int32)))) + (p2 + (3 : Int32))))]) rfl k) ?_
        show WP p e below _ (s₁.setTop (mkF m 49 #[.val (.int p1), .val (.int p2), .val (.int p3), .val (.int (((31 : Int32) * (((31 : Int32) * (((31 : Int32) * p1) + p2)) + (p2 + (2 : Int32)))) + (p2 + (3 : Int32))))] []))
        refine own_go (fun t_ k => XS.iloadN X0.here hx rfl (hb hby d5_49) rfl k) ?_
        show WP p e below _ (s₁.setTop (mkF m 50 #[.val (.int p1), .val (.int p2), .val (.int p3), .val (.int (((31 : Int32) * (((31 : Int32) * (((31 : Int32) * p1) + p2)) + (p2 + (2 : Int32)))) + (p2 + (3 : Int32))))] [(.int (((31 : Int32) * (((31 : Int32) * (((31 : Int32) * p1) + p2)) + (p2 + (2 : Int32)))) + (p2 + (3 : Int32))))]))
        exact own_retI X0 hx Bd.notSynchronized Bd.returns (hb hby d5_50) (show PQ h0 n0 (.int (f5 p1 p2 p3)) _ _ _ from ⟨by rw [f5, if_neg hc9_1, if_pos hc23_5, if_pos hc37_6], N0, e0⟩) (by decide) (by decide)
      · refine own_go (fun t_ k => XS.icmpYes X0.here hx rfl (pc0 := 37) (pc' := 49) rfl (hb hby d5_37) rfl (flt hc37_6).2.2.2 (by decide) (by decide) k) ?_
        show WP p e below _ (s₁.setTop (mkF m 49 #[.val (.int p1), .val (.int p2), .val (.int p3), .val (.int (((31 : Int32) * (((31 : Int32) * p1) + p2)) + (p2 + (2 : Int32))))] []))
        refine own_go (fun t_ k => XS.iloadN X0.here hx rfl (hb hby d5_49) rfl k) ?_
        show WP p e below _ (s₁.setTop (mkF m 50 #[.val (.int p1), .val (.int p2), .val (.int p3), .val (.int (((31 : Int32) * (((31 : Int32) * p1) + p2)) + (p2 + (2 : Int32))))] [(.int (((31 : Int32) * (((31 : Int32) * p1) + p2)) + (p2 + (2 : Int32))))]))
        exact own_retI X0 hx Bd.notSynchronized Bd.returns (hb hby d5_50) (show PQ h0 n0 (.int (f5 p1 p2 p3)) _ _ _ from ⟨by rw [f5, if_neg hc9_1, if_pos hc23_5, if_neg hc37_6], N0, e0⟩) (by decide) (by decide)
    · refine own_go (fun t_ k => XS.icmpYes X0.here hx rfl (pc0 := 23) (pc' := 35) rfl (hb hby d5_23) rfl (flt hc23_5).2.2.2 (by decide) (by decide) k) ?_
      show WP p e below _ (s₁.setTop (mkF m 35 #[.val (.int p1), .val (.int p2), .val (.int p3), .val (.int (((31 : Int32) * p1) + p2))] []))
      refine own_go (fun t_ k => XS.iloadN X0.here hx rfl (hb hby d5_35) rfl k) ?_
      show WP p e below _ (s₁.setTop (mkF m 36 #[.val (.int p1), .val (.int p2), .val (.int p3), .val (.int (((31 : Int32) * p1) + p2))] [(.int p3)]))
      refine own_go (fun t_ k => XS.iconst X0.here hx rfl (hb hby d5_36) k) ?_
      show WP p e below _ (s₁.setTop (mkF m 37 #[.val (.int p1), .val (.int p2), .val (.int p3), .val (.int (((31 : Int32) * p1) + p2))] [(.int (3 : Int32)), (.int p3)]))
      by_cases hc37_7 : (3 : Int32) < p3
      · refine own_go (fun t_ k => XS.icmpNo X0.here hx rfl (hb hby d5_37) rfl (tlt hc37_7).2.2.2 k) ?_
        show WP p e below _ (s₁.setTop (mkF m 40 #[.val (.int p1), .val (.int p2), .val (.int p3), .val (.int (((31 : Int32) * p1) + p2))] []))
        refine own_go (fun t_ k => XS.bipush X0.here hx rfl (hb hby d5_40) k) ?_
        show WP p e below _ (s₁.setTop (mkF m 42 #[.val (.int p1), .val (.int p2), .val (.int p3), .val (.int (((31 : Int32) * p1) + p2))] [(.int (31 : Int32))]))
        refine own_go (fun t_ k => XS.iloadN X0.here hx rfl (hb hby d5_42) rfl k) ?_
        show WP p e below _ (s₁.setTop (mkF m 43 #[.val (.int p1), .val (.int p2), .val (.int p3), .val (.int (((31 : Int32) * p1) + p2))] [(.int (((31 : Int32) * p1) + p2)), (.int (31 : Int32))]))
        refine own_go (fun t_ k => XS.imul X0.here hx rfl (hb hby d5_43) rfl k) ?_
        show WP p e below _ (s₁.setTop (mkF m 44 #[.val (.int p1), .val (.int p2), .val (.int p3), .val (.int (((31 : Int32) * p1) + p2))] [(.int ((31 : Int32) * (((31 : Int32) * p1) + p2)))]))
        refine own_go (fun t_ k => XS.iloadN X0.here hx rfl (hb hby d5_44) rfl k) ?_
        show WP p e below _ (s₁.setTop (mkF m 45 #[.val (.int p1), .val (.int p2), .val (.int p3), .val (.int (((31 : Int32) * p1) + p2))] [(.int p2), (.int ((31 : Int32) * (((31 : Int32) * p1) + p2)))]))
        refine own_go (fun t_ k => XS.iconst X0.here hx rfl (hb hby d5_45) k) ?_
        show WP p e below _ (s₁.setTop (mkF m 46 #[.val (.int p1), .val (.int p2), .val (.int p3), .val (.int (((31 : Int32) * p1) + p2))] [(.int (3 : Int32)), (.int p2), (.int ((31 : Int32) * (((31 : Int32) * p1) + p2)))]))
        refine own_go (fun t_ k => XS.iadd X0.here hx rfl (hb hby d5_46) rfl k) ?_
        show WP p e below _ (s₁.setTop (mkF m 47 #[.val (.int p1), .val (.int p2), .val (.int p3), .val (.int (((31 : Int32) * p1) + p2))] [(.int (p2 + (3 : Int32))), (.int ((31 : Int32) * (((31 : Int32) * p1) + p2)))]))
        refine own_go (fun t_ k => XS.iadd X0.here hx rfl (hb hby d5_47) rfl k) ?_
        show WP p e below _ (s₁.setTop (mkF m 48 #[.val (.int p1), .val (.int p2), .val (.int p3), .val (.int (((31 : Int32) * p1) + p2))] [(.int (((31 : Int32) * (((31 : Int32) * p1) + p2)) + (p2 + (3 : Int32))))]))
        refine own_go (fun t_ k => XS.istoreN X0.here hx rfl (hb hby d5_48) rfl (l' := #[.val (.int p1), .val (.int p2), .val (.int p3), .val (.int (((31 : Int32) * (((31 : Int32) * p1) + p2)) + (p2 + (3 : Int32))))]) rfl k) ?_
        show WP p e below _ (s₁.setTop (mkF m 49 #[.val (.int p1), .val (.int p2), .val (.int p3), .val (.int (((31 : Int32) * (((31 : Int32) * p1) + p2)) + (p2 + (3 : Int32))))] []))
        refine own_go (fun t_ k => XS.iloadN X0.here hx rfl (hb hby d5_49) rfl k) ?_
        show WP p e below _ (s₁.setTop (mkF m 50 #[.val (.int p1), .val (.int p2), .val (.int p3), .val (.int (((31 : Int32) * (((31 : Int32) * p1) + p2)) + (p2 + (3 : Int32))))] [(.int (((31 : Int32) * (((31 : Int32) * p1) + p2)) + (p2 + (3 : Int32))))]))
        exact own_retI X0 hx Bd.notSynchronized Bd.returns (hb hby d5_50) (show PQ h0 n0 (.int (f5 p1 p2 p3)) _ _ _ from ⟨by rw [f5, if_neg hc9_1, if_neg hc23_5, if_pos hc37_7], N0, e0⟩) (by decide) (by decide)
      · refine own_go (fun t_ k => XS.icmpYes X0.here hx rfl (pc0 := 37) (pc' := 49) rfl (hb hby d5_37) rfl (flt hc37_7).2.2.2 (by decide) (by decide) k) ?_
        show WP p e below _ (s₁.setTop (mkF m 49 #[.val (.int p1), .val (.int p2), .val (.int p3), .val (.int (((31 : Int32) * p1) + p2))] []))
        refine own_go (fun t_ k => XS.iloadN X0.here hx rfl (hb hby d5_49) rfl k) ?_
        show WP p e below _ (s₁.setTop (mkF m 50 #[.val (.int p1), .val (.int p2), .val (.int p3), .val (.int (((31 : Int32) * p1) + p2))] [(.int (((31 : Int32) * p1) + p2))]))
        exact own_retI X0 hx Bd.notSynchronized Bd.returns (hb hby d5_50) (show PQ h0 n0 (.int (f5 p1 p2 p3)) _ _ _ from ⟨by rw [f5, if_neg hc9_1, if_neg hc23_5, if_neg hc37_7], N0, e0⟩) (by decide) (by decide)
theorem d6_0 : decode prog_44_method_29_code 0 = .ok (.iconst 0, 1) := by decide +kernel
theorem d6_1 : decode prog_44_method_29_code 1 = .ok (.istore_n 1, 1) := by decide +kernel
theorem d6_2 : decode prog_44_method_29_code 2 = .ok (.iconst 0, 1) := by decide +kernel
theorem d6_3 : decode prog_44_method_29_code 3 = .ok (.istore_n 2, 1) := by decide +kernel
theorem d6_4 : decode prog_44_method_29_code 4 = .ok (.iload_n 2, 1) := by decide +kernel
theorem d6_5 : decode prog_44_method_29_code 5 = .ok (.aload_n 0, 1) := by decide +kernel
theorem d6_6 : decode prog_44_method_29_code 6 = .ok (.getfield 19, 3) := by decide +kernel
theorem d6_9 : decode prog_44_method_29_code 9 = .ok (.if_icmp .ge 44, 3) := by decide +kernel
theorem d6_53 : decode prog_44_method_29_code 53 = .ok (.iload_n 1, 1) := by decide +kernel
theorem d6_54 : decode prog_44_method_29_code 54 = .ok (.ireturn, 1) := by decide +kernel
theorem ef_rm6_0 (m : MethodId) (x0 : Addr) : entryFrame m #[(.ref x0)] 5 = mkF m 0 #[.val (.ref x0), .unset, .unset, .unset, .unset] [] := by first | (simp [entryFrame, mkF, argsToLocals, Value.category]; done) | rfl
set_option maxRecDepth 65536 in
set_option maxHeartbeats 40000000 in
theorem rm6_0 (l : Launch) (Z : State) (a0 : Array Value) (hw : ∀ d ∈ tables_1, d.before a0 Z = true) (ws : List Jvm.Cond) (a1 : Addr) (ta : Addr) (tb : Addr) (ka : ClassId) (kb : ClassId) (c0 : Int32) (c1 : Int32) (d0 : Int32) (d1 : Int32) (k0 : Nat) (k1 : Nat) (h0 : Heap) (n0 : Nat) (F_a : Fld Z h0 a1 "com/example/cairn/cairn/RunContainer" "starts" "[C" (.ref ta)) (F_b : Fld Z h0 a1 "com/example/cairn/cairn/RunContainer" "ends" "[C" (.ref tb)) (F_s : Fld Z h0 a1 "com/example/cairn/cairn/RunContainer" "size" "I" (.int (0 : Int32))) (V_a : Arv Z h0 ta ka .char (3 : Int32) [(.int c0), (.int c1), (.int (7 : Int32))] (.int (0 : Int32))) (V_b : Arv Z h0 tb kb .char (3 : Int32) [(.int d0), (.int d1), (.int (9 : Int32))] (.int (0 : Int32))) :
    MetFree l (⟨"com/example/cairn/cairn/RunContainer", "valuesHash", "()I"⟩ : MethodName) (head1 (Jvm.Cond.code (⟨"com/example/cairn/cairn/RunContainer", "valuesHash", "()I"⟩ : MethodName) prog_44_method_29_code 5 (some .int) :: ws) ({ frames := 0, cells := 0, slots := 0, locals := 0 } : Room)) (fun a U => a = #[(.ref a1)] ∧ Z.Warmed39 U.vm ∧ U.heap = h0) (fun _ _ _ _ _ => True) (fun _ U o U' => ∃ v L, o = .returned v ∧ (PQ h0 n0 (.int (0 : Int32))) v U'.heap L ∧ FrameEnd U o U' L ({ frames := 0, cells := 0, slots := 0, locals := 0 } : Room).cells ({ frames := 0, cells := 0, slots := 0, locals := 0 } : Room).slots) := by
  refine MetFree.of_bodySF (plainFor_of_name pn_1) hisR ?_
  intro p e s m args below meth c s₁ Bd hml0 hP hK
  obtain ⟨rfl, hZ, hh⟩ := hP
  have hx := Bd.exec
  have hby := Bd.bytes
  have hml : c.maxLocals = 5 := hml0
  have hown : s.vm.findClass "com/example/cairn/cairn/RunContainer" = some m.cls := findClass_of_methodNamed Bd.named
  have hnm := (name_of_methodNamed Bd.named Bd.method).1
  have X0 : Stand p l e ({ frames := 0, cells := 0, slots := 0, locals := 0 } : Room) s m #[(.ref a1)] below meth c s₁ [] 0 0 := Stand.of_body Bd
  have e0 : s₁.heap = h0 := by rw [← hh, Bd.state]; rfl
  have N0 := Fr.nil n0
  show WP p e below (GG (PQ h0 n0 (.int (0 : Int32))) s ({ frames := 0, cells := 0, slots := 0, locals := 0 } : Room).cells ({ frames := 0, cells := 0, slots := 0, locals := 0 } : Room).slots) (s₁.setTop (entryFrame m #[(.ref a1)] 5))
  rw [ef_rm6_0 m a1]
  show WP p e below _ (s₁.setTop (mkF m 0 #[.val (.ref a1), .unset, .unset, .unset, .unset] []))
  refine own_go (fun t_ k => XS.iconst X0.here hx rfl (hb hby d6_0) k) ?_
  show WP p e below _ (s₁.setTop (mkF m 1 #[.val (.ref a1), .unset, .unset, .unset, .unset] [(.int (0 : Int32))]))
  refine own_go (fun t_ k => XS.istoreN X0.here hx rfl (hb hby d6_1) rfl (l' := #[.val (.ref a1), .val (.int (0 : Int32)), .unset, .unset, .unset]) rfl k) ?_
  show WP p e below _ (s₁.setTop (mkF m 2 #[.val (.ref a1), .val (.int (0 : Int32)), .unset, .unset, .unset] []))
  refine own_go (fun t_ k => XS.iconst X0.here hx rfl (hb hby d6_2) k) ?_
  show WP p e below _ (s₁.setTop (mkF m 3 #[.val (.ref a1), .val (.int (0 : Int32)), .unset, .unset, .unset] [(.int (0 : Int32))]))
  refine own_go (fun t_ k => XS.istoreN X0.here hx rfl (hb hby d6_3) rfl (l' := #[.val (.ref a1), .val (.int (0 : Int32)), .val (.int (0 : Int32)), .unset, .unset]) rfl k) ?_
  show WP p e below _ (s₁.setTop (mkF m 4 #[.val (.ref a1), .val (.int (0 : Int32)), .val (.int (0 : Int32)), .unset, .unset] []))
  refine own_go (fun t_ k => XS.iloadN X0.here hx rfl (hb hby d6_4) rfl k) ?_
  show WP p e below _ (s₁.setTop (mkF m 5 #[.val (.ref a1), .val (.int (0 : Int32)), .val (.int (0 : Int32)), .unset, .unset] [(.int (0 : Int32))]))
  refine own_go (fun t_ k => XS.aloadN X0.here hx rfl (hb hby d6_5) rfl rfl k) ?_
  show WP p e below _ (s₁.setTop (mkF m 6 #[.val (.ref a1), .val (.int (0 : Int32)), .val (.int (0 : Int32)), .unset, .unset] [(.ref a1), (.int (0 : Int32))]))
  obtain ⟨T1, X1, e1, st1⟩ := getF X0 hx hZ hown (host := "") (Or.inl (hw _ (List.mem_of_getElem? (i := 26) rfl))) Via.refl e0 F_s (g := (mkF m 6 #[.val (.ref a1), .val (.int (0 : Int32)), .val (.int (0 : Int32)), .unset, .unset] [(.ref a1), (.int (0 : Int32))])) rfl rfl (hb hby d6_6)
  refine own_go st1 ?_
  show WP p e below _ (T1.setTop (mkF m 9 #[.val (.ref a1), .val (.int (0 : Int32)), .val (.int (0 : Int32)), .unset, .unset] [(.int (0 : Int32)), (.int (0 : Int32))]))
  have hc9_2 : ¬ ((0 : Int32) < (0 : Int32)) := by decide
  refine own_go (fun t_ k => XS.icmpYes X1.here hx rfl (pc0 := 9) (pc' := 53) rfl (hb hby d6_9) rfl (flt hc9_2).2.1 (by decide) (by decide) k) ?_
  show WP p e below _ (T1.setTop (mkF m 53 #[.val (.ref a1), .val (.int (0 : Int32)), .val (.int (0 : Int32)), .unset, .unset] []))
  refine own_go (fun t_ k => XS.iloadN X1.here hx rfl (hb hby d6_53) rfl k) ?_
  show WP p e below _ (T1.setTop (mkF m 54 #[.val (.ref a1), .val (.int (0 : Int32)), .val (.int (0 : Int32)), .unset, .unset] [(.int (0 : Int32))]))
  exact own_retI X1 hx Bd.notSynchronized Bd.returns (hb hby d6_54) (show PQ h0 n0 (.int (0 : Int32)) _ _ _ from ⟨rfl, N0, e1⟩) (by decide) (by decide)
theorem d6_12 : decode prog_44_method_29_code 12 = .ok (.aload_n 0, 1) := by decide +kernel
theorem d6_13 : decode prog_44_method_29_code 13 = .ok (.getfield 16, 3) := by decide +kernel
theorem d6_16 : decode prog_44_method_29_code 16 = .ok (.iload_n 2, 1) := by decide +kernel
theorem d6_17 : decode prog_44_method_29_code 17 = .ok (.caload, 1) := by decide +kernel
theorem d6_18 : decode prog_44_method_29_code 18 = .ok (.istore_n 3, 1) := by decide +kernel
theorem d6_19 : decode prog_44_method_29_code 19 = .ok (.aload_n 0, 1) := by decide +kernel
theorem d6_20 : decode prog_44_method_29_code 20 = .ok (.getfield 12, 3) := by decide +kernel
theorem d6_23 : decode prog_44_method_29_code 23 = .ok (.iload_n 2, 1) := by decide +kernel
theorem d6_24 : decode prog_44_method_29_code 24 = .ok (.caload, 1) := by decide +kernel
theorem d6_25 : decode prog_44_method_29_code 25 = .ok (.istore 4, 2) := by decide +kernel
theorem d6_27 : decode prog_44_method_29_code 27 = .ok (.iload 4, 2) := by decide +kernel
theorem d6_29 : decode prog_44_method_29_code 29 = .ok (.iload_n 3, 1) := by decide +kernel
theorem d6_30 : decode prog_44_method_29_code 30 = .ok (.if_icmp .gt 17, 3) := by decide +kernel
theorem d6_33 : decode prog_44_method_29_code 33 = .ok (.bipush 31, 2) := by decide +kernel
theorem d6_35 : decode prog_44_method_29_code 35 = .ok (.iload_n 1, 1) := by decide +kernel
theorem d6_36 : decode prog_44_method_29_code 36 = .ok (.imul, 1) := by decide +kernel
theorem d6_37 : decode prog_44_method_29_code 37 = .ok (.iload 4, 2) := by decide +kernel
theorem d6_39 : decode prog_44_method_29_code 39 = .ok (.iadd, 1) := by decide +kernel
theorem d6_40 : decode prog_44_method_29_code 40 = .ok (.istore_n 1, 1) := by decide +kernel
theorem d6_41 : decode prog_44_method_29_code 41 = .ok (.iinc 4 1, 3) := by decide +kernel
theorem d6_44 : decode prog_44_method_29_code 44 = .ok (.goto (-17), 3) := by decide +kernel
theorem d6_47 : decode prog_44_method_29_code 47 = .ok (.iinc 2 1, 3) := by decide +kernel
theorem d6_50 : decode prog_44_method_29_code 50 = .ok (.goto (-46), 3) := by decide +kernel
theorem ef_rm6_1 (m : MethodId) (x0 : Addr) : entryFrame m #[(.ref x0)] 5 = mkF m 0 #[.val (.ref x0), .unset, .unset, .unset, .unset] [] := by first | (simp [entryFrame, mkF, argsToLocals, Value.category]; done) | rfl
set_option maxRecDepth 65536 in
set_option maxHeartbeats 40000000 in
theorem rm6_1 (l : Launch) (Z : State) (a0 : Array Value) (hw : ∀ d ∈ tables_1, d.before a0 Z = true) (ws : List Jvm.Cond) (a1 : Addr) (ta : Addr) (tb : Addr) (ka : ClassId) (kb : ClassId) (c0 : Int32) (c1 : Int32) (d0 : Int32) (d1 : Int32) (k0 : Nat) (k1 : Nat) (h0 : Heap) (n0 : Nat) (F_a : Fld Z h0 a1 "com/example/cairn/cairn/RunContainer" "starts" "[C" (.ref ta)) (F_b : Fld Z h0 a1 "com/example/cairn/cairn/RunContainer" "ends" "[C" (.ref tb)) (F_s : Fld Z h0 a1 "com/example/cairn/cairn/RunContainer" "size" "I" (.int (1 : Int32))) (V_a : Arv Z h0 ta ka .char (3 : Int32) [(.int c0), (.int c1), (.int (7 : Int32))] (.int (0 : Int32))) (V_b : Arv Z h0 tb kb .char (3 : Int32) [(.int d0), (.int d1), (.int (9 : Int32))] (.int (0 : Int32))) (y0 : c0.toInt + (k0 : Int) = d0.toInt + 1) (y1 : 0 ≤ c0.toInt) (y2 : d0.toInt < 65536) :
    MetFree l (⟨"com/example/cairn/cairn/RunContainer", "valuesHash", "()I"⟩ : MethodName) (head1 (Jvm.Cond.code (⟨"com/example/cairn/cairn/RunContainer", "valuesHash", "()I"⟩ : MethodName) prog_44_method_29_code 5 (some .int) :: ws) ({ frames := 0, cells := 0, slots := 0, locals := 0 } : Room)) (fun a U => a = #[(.ref a1)] ∧ Z.Warmed39 U.vm ∧ U.heap = h0) (fun _ _ _ _ _ => True) (fun _ U o U' => ∃ v L, o = .returned v ∧ (PQ h0 n0 (.int (hr 0 c0 k0))) v U'.heap L ∧ FrameEnd U o U' L ({ frames := 0, cells := 0, slots := 0, locals := 0 } : Room).cells ({ frames := 0, cells := 0, slots := 0, locals := 0 } : Room).slots) := by
  refine MetFree.of_bodySF (plainFor_of_name pn_1) hisR ?_
  intro p e s m args below meth c s₁ Bd hml0 hP hK
  obtain ⟨rfl, hZ, hh⟩ := hP
  have hx := Bd.exec
  have hby := Bd.bytes
  have hml : c.maxLocals = 5 := hml0
  have hown : s.vm.findClass "com/example/cairn/cairn/RunContainer" = some m.cls := findClass_of_methodNamed Bd.named
  have hnm := (name_of_methodNamed Bd.named Bd.method).1
  have X0 : Stand p l e ({ frames := 0, cells := 0, slots := 0, locals := 0 } : Room) s m #[(.ref a1)] below meth c s₁ [] 0 0 := Stand.of_body Bd
  have e0 : s₁.heap = h0 := by rw [← hh, Bd.state]; rfl
  have N0 := Fr.nil n0
  show WP p e below (GG (PQ h0 n0 (.int (hr 0 c0 k0))) s ({ frames := 0, cells := 0, slots := 0, locals := 0 } : Room).cells ({ frames := 0, cells := 0, slots := 0, locals := 0 } : Room).slots) (s₁.setTop (entryFrame m #[(.ref a1)] 5))
  rw [ef_rm6_1 m a1]
  show WP p e below _ (s₁.setTop (mkF m 0 #[.val (.ref a1), .unset, .unset, .unset, .unset] []))
  refine own_go (fun t_ k => XS.iconst X0.here hx rfl (hb hby d6_0) k) ?_
  show WP p e below _ (s₁.setTop (mkF m 1 #[.val (.ref a1), .unset, .unset, .unset, .unset] [(.int (0 : Int32))]))
  refine own_go (fun t_ k => XS.istoreN X0.here hx rfl (hb hby d6_1) rfl (l' := #[.val (.ref a1), .val (.int (0 : Int32)), .unset, .unset, .unset]) rfl k) ?_
  show WP p e below _ (s₁.setTop (mkF m 2 #[.val (.ref a1), .val (.int (0 : Int32)), .unset, .unset, .unset] []))
  refine own_go (fun t_ k => XS.iconst X0.here hx rfl (hb hby d6_2) k) ?_
  show WP p e below _ (s₁.setTop (mkF m 3 #[.val (.ref a1), .val (.int (0 : Int32)), .unset, .unset, .unset] [(.int (0 : Int32))]))
  refine own_go (fun t_ k => XS.istoreN X0.here hx rfl (hb hby d6_3) rfl (l' := #[.val (.ref a1), .val (.int (0 : Int32)), .val (.int (0 : Int32)), .unset, .unset]) rfl k) ?_
  show WP p e below _ (s₁.setTop (mkF m 4 #[.val (.ref a1), .val (.int (0 : Int32)), .val (.int (0 : Int32)), .unset, .unset] []))
  refine own_go (fun t_ k => XS.iloadN X0.here hx rfl (hb hby d6_4) rfl k) ?_
  show WP p e below _ (s₁.setTop (mkF m 5 #[.val (.ref a1), .val (.int (0 : Int32)), .val (.int (0 : Int32)), .unset, .unset] [(.int (0 : Int32))]))
  refine own_go (fun t_ k => XS.aloadN X0.here hx rfl (hb hby d6_5) rfl rfl k) ?_
  show WP p e below _ (s₁.setTop (mkF m 6 #[.val (.ref a1), .val (.int (0 : Int32)), .val (.int (0 : Int32)), .unset, .unset] [(.ref a1), (.int (0 : Int32))]))
  obtain ⟨T1, X1, e1, st1⟩ := getF X0 hx hZ hown (host := "") (Or.inl (hw _ (List.mem_of_getElem? (i := 26) rfl))) Via.refl e0 F_s (g := (mkF m 6 #[.val (.ref a1), .val (.int (0 : Int32)), .val (.int (0 : Int32)), .unset, .unset] [(.ref a1), (.int (0 : Int32))])) rfl rfl (hb hby d6_6)
  refine own_go st1 ?_
  show WP p e below _ (T1.setTop (mkF m 9 #[.val (.ref a1), .val (.int (0 : Int32)), .val (.int (0 : Int32)), .unset, .unset] [(.int (1 : Int32)), (.int (0 : Int32))]))
  have hc9_2 : ((0 : Int32) < (1 : Int32)) := by decide
  refine own_go (fun t_ k => XS.icmpNo X1.here hx rfl (hb hby d6_9) rfl (tlt hc9_2).2.1 k) ?_
  show WP p e below _ (T1.setTop (mkF m 12 #[.val (.ref a1), .val (.int (0 : Int32)), .val (.int (0 : Int32)), .unset, .unset] []))
  refine own_go (fun t_ k => XS.aloadN X1.here hx rfl (hb hby d6_12) rfl rfl k) ?_
  show WP p e below _ (T1.setTop (mkF m 13 #[.val (.ref a1), .val (.int (0 : Int32)), .val (.int (0 : Int32)), .unset, .unset] [(.ref a1)]))
  obtain ⟨T3, X3, e3, st3⟩ := getF X1 hx hZ hown (host := "") (Or.inl (hw _ (List.mem_of_getElem? (i := 24) rfl))) Via.refl e1 F_b (g := (mkF m 13 #[.val (.ref a1), .val (.int (0 : Int32)), .val (.int (0 : Int32)), .unset, .unset] [(.ref a1)])) rfl rfl (hb hby d6_13)
  refine own_go st3 ?_
  show WP p e below _ (T3.setTop (mkF m 16 #[.val (.ref a1), .val (.int (0 : Int32)), .val (.int (0 : Int32)), .unset, .unset] [(.ref tb)]))
  refine own_go (fun t_ k => XS.iloadN X3.here hx rfl (hb hby d6_16) rfl k) ?_
  show WP p e below _ (T3.setTop (mkF m 17 #[.val (.ref a1), .val (.int (0 : Int32)), .val (.int (0 : Int32)), .unset, .unset] [(.int (0 : Int32)), (.ref tb)]))
  obtain ⟨cl4, Ar4, -, S4, M4, H4, -⟩ := id (V_b)
  have hin4 : ¬ ((0 : Int32) < 0 ∨ cl4.slots.size ≤ ((0 : Int32)).toNatClampNeg) := inb_of S4 (⟨by decide, by decide⟩)
  refine own_go (fun t_ k => X3.caload hx (j := (0 : Int32)) (v := (.int d0)) (by rw [e3]; exact Ar4.1) (State.isArrayOf_alike hZ.alike Ar4.2.1) Ar4.2.2 hin4 (H4.at hin4 rfl) (g := (mkF m 17 #[.val (.ref a1), .val (.int (0 : Int32)), .val (.int (0 : Int32)), .unset, .unset] [(.int (0 : Int32)), (.ref tb)])) rfl rfl (hb hby d6_17) _ k) ?_
  show WP p e below _ (T3.setTop (mkF m 18 #[.val (.ref a1), .val (.int (0 : Int32)), .val (.int (0 : Int32)), .unset, .unset] [(.int d0)]))
  refine own_go (fun t_ k => XS.istoreN X3.here hx rfl (hb hby d6_18) rfl (l' := #[.val (.ref a1), .val (.int (0 : Int32)), .val (.int (0 : Int32)), .val (.int d0), .unset]) rfl k) ?_
  show WP p e below _ (T3.setTop (mkF m 19 #[.val (.ref a1), .val (.int (0 : Int32)), .val (.int (0 : Int32)), .val (.int d0), .unset] []))
  refine own_go (fun t_ k => XS.aloadN X3.here hx rfl (hb hby d6_19) rfl rfl k) ?_
  show WP p e below _ (T3.setTop (mkF m 20 #[.val (.ref a1), .val (.int (0 : Int32)), .val (.int (0 : Int32)), .val (.int d0), .unset] [(.ref a1)]))
  obtain ⟨T5, X5, e5, st5⟩ := getF X3 hx hZ hown (host := "") (Or.inl (hw _ (List.mem_of_getElem? (i := 22) rfl))) Via.refl e3 F_a (g := (mkF m 20 #[.val (.ref a1), .val (.int (0 : Int32)), .val (.int (0 : Int32)), .val (.int d0), .unset] [(.ref a1)])) rfl rfl (hb hby d6_20)
  refine own_go st5 ?_
  show WP p e below _ (T5.setTop (mkF m 23 #[.val (.ref a1), .val (.int (0 : Int32)), .val (.int (0 : Int32)), .val (.int d0), .unset] [(.ref ta)]))
  refine own_go (fun t_ k => XS.iloadN X5.here hx rfl (hb hby d6_23) rfl k) ?_
  show WP p e below _ (T5.setTop (mkF m 24 #[.val (.ref a1), .val (.int (0 : Int32)), .val (.int (0 : Int32)), .val (.int d0), .unset] [(.int (0 : Int32)), (.ref ta)]))
  obtain ⟨cl6, Ar6, -, S6, M6, H6, -⟩ := id (V_a)
  have hin6 : ¬ ((0 : Int32) < 0 ∨ cl6.slots.size ≤ ((0 : Int32)).toNatClampNeg) := inb_of S6 (⟨by decide, by decide⟩)
  refine own_go (fun t_ k => X5.caload hx (j := (0 : Int32)) (v := (.int c0)) (by rw [e5]; exact Ar6.1) (State.isArrayOf_alike hZ.alike Ar6.2.1) Ar6.2.2 hin6 (H6.at hin6 rfl) (g := (mkF m 24 #[.val (.ref a1), .val (.int (0 : Int32)), .val (.int (0 : Int32)), .val (.int d0), .unset] [(.int (0 : Int32)), (.ref ta)])) rfl rfl (hb hby d6_24) _ k) ?_
  show WP p e below _ (T5.setTop (mkF m 25 #[.val (.ref a1), .val (.int (0 : Int32)), .val (.int (0 : Int32)), .val (.int d0), .unset] [(.int c0)]))
  refine own_go (fun t_ k => XS.istore X5.here hx rfl (hb hby d6_25) rfl (l' := #[.val (.ref a1), .val (.int (0 : Int32)), .val (.int (0 : Int32)), .val (.int d0), .val (.int c0)]) rfl k) ?_
  have Lp7 : ∀ (k7 : Nat) (T7 : State) (ls7 : List Loc) (X7 : Stand p l e ({ frames := 0, cells := 0, slots := 0, locals := 0 } : Room) s m #[(.ref a1)] below meth c T7 ls7 0 0) (N7 : Fr n0 ls7) (e7 : T7.heap = h0) (vh7 : Int32) (vs7 : Int32) (iva7 : vs7.toInt + (k7 : Int) = d0.toInt + 1) (ivb7 : 0 ≤ vs7.toInt) (ivc7 : hr vh7 vs7 k7 = (hr 0 c0 k0)), WP p e below (GG (PQ h0 n0 (.int (hr 0 c0 k0))) s ({ frames := 0, cells := 0, slots := 0, locals := 0 } : Room).cells ({ frames := 0, cells := 0, slots := 0, locals := 0 } : Room).slots) (T7.setTop (mkF m 27 #[.val (.ref a1), .val (.int vh7), .val (.int (0 : Int32)), .val (.int d0), .val (.int vs7)] [])) := by
    intro k7
    induction k7 with
    | zero =>
      intro T7 ls7 X7 N7 e7 vh7 vs7 iva7 ivb7 ivc7
      show WP p e below _ (T7.setTop (mkF m 27 #[.val (.ref a1), .val (.int vh7), .val (.int (0 : Int32)), .val (.int d0), .val (.int vs7)] []))
      refine own_go (fun t_ k => XS.iload X7.here hx rfl (hb hby d6_27) rfl k) ?_
      show WP p e below _ (T7.setTop (mkF m 29 #[.val (.ref a1), .val (.int vh7), .val (.int (0 : Int32)), .val (.int d0), .val (.int vs7)] [(.int vs7)]))
      refine own_go (fun t_ k => XS.iloadN X7.here hx rfl (hb hby d6_29) rfl k) ?_
      show WP p e below _ (T7.setTop (mkF m 30 #[.val (.ref a1), .val (.int vh7), .val (.int (0 : Int32)), .val (.int d0), .val (.int vs7)] [(.int d0), (.int vs7)]))
      have hc30_8 : (d0 < vs7) := own_gt (by have q := iva7; simpa using q)
      refine own_go (fun t_ k => XS.icmpYes X7.here hx rfl (pc0 := 30) (pc' := 47) rfl (hb hby d6_30) rfl (tlt hc30_8).2.2.1 (by decide) (by decide) k) ?_
      have eq7 : vh7 = (hr 0 c0 k0) := ivc7
      clear ivc7
      subst eq7
      show WP p e below _ (T7.setTop (mkF m 47 #[.val (.ref a1), .val (.int (hr 0 c0 k0)), .val (.int (0 : Int32)), .val (.int d0), .val (.int vs7)] []))
      refine own_go (fun t_ k => XS.iinc X7.here hx rfl (hb hby d6_47) rfl (l' := #[.val (.ref a1), .val (.int (hr 0 c0 k0)), .val (.int (1 : Int32)), .val (.int d0), .val (.int vs7)]) rfl k) ?_
      show WP p e below _ (T7.setTop (mkF m 50 #[.val (.ref a1), .val (.int (hr 0 c0 k0)), .val (.int (1 : Int32)), .val (.int d0), .val (.int vs7)] []))
      refine own_go (fun t_ k => XS.goto X7.here hx rfl (pc0 := 50) (pc' := 4) rfl (hb hby d6_50) (by decide) (by decide) k) ?_
      show WP p e below _ (T7.setTop (mkF m 4 #[.val (.ref a1), .val (.int (hr 0 c0 k0)), .val (.int (1 : Int32)), .val (.int d0), .val (.int vs7)] []))
      refine own_go (fun t_ k => XS.iloadN X7.here hx rfl (hb hby d6_4) rfl k) ?_
      show WP p e below _ (T7.setTop (mkF m 5 #[.val (.ref a1), .val (.int (hr 0 c0 k0)), .val (.int (1 : Int32)), .val (.int d0), .val (.int vs7)] [(.int (1 : Int32))]))
      refine own_go (fun t_ k => XS.aloadN X7.here hx rfl (hb hby d6_5) rfl rfl k) ?_
      show WP p e below _ (T7.setTop (mkF m 6 #[.val (.ref a1), .val (.int (hr 0 c0 k0)), .val (.int (1 : Int32)), .val (.int d0), .val (.int vs7)] [(.ref a1), (.int (1 : Int32))]))
      obtain ⟨T9, X9, e9, st9⟩ := getF X7 hx hZ hown (host := "") (Or.inl (hw _ (List.mem_of_getElem? (i := 26) rfl))) Via.refl e7 F_s (g := (mkF m 6 #[.val (.ref a1), .val (.int (hr 0 c0 k0)), .val (.int (1 : Int32)), .val (.int d0), .val (.int vs7)] [(.ref a1), (.int (1 : Int32))])) rfl rfl (hb hby d6_6)
      refine own_go st9 ?_
      show WP p e below _ (T9.setTop (mkF m 9 #[.val (.ref a1), .val (.int (hr 0 c0 k0)), .val (.int (1 : Int32)), .val (.int d0), .val (.int vs7)] [(.int (1 : Int32)), (.int (1 : Int32))]))
      have hc9_10 : ¬ ((1 : Int32) < (1 : Int32)) := by decide
      refine own_go (fun t_ k => XS.icmpYes X9.here hx rfl (pc0 := 9) (pc' := 53) rfl (hb hby d6_9) rfl (flt hc9_10).2.1 (by decide) (by decide) k) ?_
      show WP p e below _ (T9.setTop (mkF m 53 #[.val (.ref a1), .val (.int (hr 0 c0 k0)), .val (.int (1 : Int32)), .val (.int d0), .val (.int vs7)] []))
      refine own_go (fun t_ k => XS.iloadN X9.here hx rfl (hb hby d6_53) rfl k) ?_
      show WP p e below _ (T9.setTop (mkF m 54 #[.val (.ref a1), .val (.int (hr 0 c0 k0)), .val (.int (1 : Int32)), .val (.int d0), .val (.int vs7)] [(.int (hr 0 c0 k0))]))
      exact own_retI X9 hx Bd.notSynchronized Bd.returns (hb hby d6_54) (show PQ h0 n0 (.int (hr 0 c0 k0)) _ _ _ from ⟨rfl, N7, e9⟩) (by decide) (by decide)
    | succ k7 ih7 =>
      intro T7 ls7 X7 N7 e7 vh7 vs7 iva7 ivb7 ivc7
      show WP p e below _ (T7.setTop (mkF m 27 #[.val (.ref a1), .val (.int vh7), .val (.int (0 : Int32)), .val (.int d0), .val (.int vs7)] []))
      refine own_go (fun t_ k => XS.iload X7.here hx rfl (hb hby d6_27) rfl k) ?_
      show WP p e below _ (T7.setTop (mkF m 29 #[.val (.ref a1), .val (.int vh7), .val (.int (0 : Int32)), .val (.int d0), .val (.int vs7)] [(.int vs7)]))
      refine own_go (fun t_ k => XS.iloadN X7.here hx rfl (hb hby d6_29) rfl k) ?_
      show WP p e below _ (T7.setTop (mkF m 30 #[.val (.ref a1), .val (.int vh7), .val (.int (0 : Int32)), .val (.int d0), .val (.int vs7)] [(.int d0), (.int vs7)]))
      have hc30_11 : ¬ (d0 < vs7) := own_le iva7
      refine own_go (fun t_ k => XS.icmpNo X7.here hx rfl (hb hby d6_30) rfl (flt hc30_11).2.2.1 k) ?_
      show WP p e below _ (T7.setTop (mkF m 33 #[.val (.ref a1), .val (.int vh7), .val (.int (0 : Int32)), .val (.int d0), .val (.int vs7)] []))
      refine own_go (fun t_ k => XS.bipush X7.here hx rfl (hb hby d6_33) k) ?_
      show WP p e below _ (T7.setTop (mkF m 35 #[.val (.ref a1), .val (.int vh7), .val (.int (0 : Int32)), .val (.int d0), .val (.int vs7)] [(.int (31 : Int32))]))
      refine own_go (fun t_ k => XS.iloadN X7.here hx rfl (hb hby d6_35) rfl k) ?_
      show WP p e below _ (T7.setTop (mkF m 36 #[.val (.ref a1), .val (.int vh7), .val (.int (0 : Int32)), .val (.int d0), .val (.int vs7)] [(.int vh7), (.int (31 : Int32))]))
      refine own_go (fun t_ k => XS.imul X7.here hx rfl (hb hby d6_36) rfl k) ?_
      show WP p e below _ (T7.setTop (mkF m 37 #[.val (.ref a1), .val (.int vh7), .val (.int (0 : Int32)), .val (.int d0), .val (.int vs7)] [(.int ((31 : Int32) * vh7))]))
      refine own_go (fun t_ k => XS.iload X7.here hx rfl (hb hby d6_37) rfl k) ?_
      show WP p e below _ (T7.setTop (mkF m 39 #[.val (.ref a1), .val (.int vh7), .val (.int (0 : Int32)), .val (.int d0), .val (.int vs7)] [(.int vs7), (.int ((31 : Int32) * vh7))]))
      refine own_go (fun t_ k => XS.iadd X7.here hx rfl (hb hby d6_39) rfl k) ?_
      show WP p e below _ (T7.setTop (mkF m 40 #[.val (.ref a1), .val (.int vh7), .val (.int (0 : Int32)), .val (.int d0), .val (.int vs7)] [(.int (((31 : Int32) * vh7) + vs7))]))
      refine own_go (fun t_ k => XS.istoreN X7.here hx rfl (hb hby d6_40) rfl (l' := #[.val (.ref a1), .val (.int (((31 : Int32) * vh7) + vs7)), .val (.int (0 : Int32)), .val (.int d0), .val (.int vs7)]) rfl k) ?_
      show WP p e below _ (T7.setTop (mkF m 41 #[.val (.ref a1), .val (.int (((31 : Int32) * vh7) + vs7)), .val (.int (0 : Int32)), .val (.int d0), .val (.int vs7)] []))
      refine own_go (fun t_ k => XS.iinc X7.here hx rfl (hb hby d6_41) rfl (l' := #[.val (.ref a1), .val (.int (((31 : Int32) * vh7) + vs7)), .val (.int (0 : Int32)), .val (.int d0), .val (.int (vs7 + (1 : Int32)))]) rfl k) ?_
      show WP p e below _ (T7.setTop (mkF m 44 #[.val (.ref a1), .val (.int (((31 : Int32) * vh7) + vs7)), .val (.int (0 : Int32)), .val (.int d0), .val (.int (vs7 + (1 : Int32)))] []))
      refine own_go (fun t_ k => XS.goto X7.here hx rfl (pc0 := 44) (pc' := 27) rfl (hb hby d6_44) (by decide) (by decide) k) ?_
      show WP p e below _ (T7.setTop (mkF m 27 #[.val (.ref a1), .val (.int (((31 : Int32) * vh7) + vs7)), .val (.int (0 : Int32)), .val (.int d0), .val (.int (vs7 + (1 : Int32)))] []))
      exact ih7 T7 _ X7 N7 e7 (((31 : Int32) * vh7) + vs7) (vs7 + (1 : Int32)) ((own_up iva7 ivb7 y2).1) ((own_up iva7 ivb7 y2).2) (ivc7)
  show WP p e below _ (T5.setTop (mkF m 27 #[.val (.ref a1), .val (.int (0 : Int32)), .val (.int (0 : Int32)), .val (.int d0), .val (.int c0)] []))
  exact Lp7 k0 T5 _ X5 N0 e5 (0 : Int32) c0 (y0) (y1) (rfl)
theorem ef_rm6_2 (m : MethodId) (x0 : Addr) : entryFrame m #[(.ref x0)] 5 = mkF m 0 #[.val (.ref x0), .unset, .unset, .unset, .unset] [] := by first | (simp [entryFrame, mkF, argsToLocals, Value.category]; done) | rfl
set_option maxRecDepth 65536 in
set_option maxHeartbeats 40000000 in
theorem rm6_2 (l : Launch) (Z : State) (a0 : Array Value) (hw : ∀ d ∈ tables_1, d.before a0 Z = true) (ws : List Jvm.Cond) (a1 : Addr) (ta : Addr) (tb : Addr) (ka : ClassId) (kb : ClassId) (c0 : Int32) (c1 : Int32) (d0 : Int32) (d1 : Int32) (k0 : Nat) (k1 : Nat) (h0 : Heap) (n0 : Nat) (F_a : Fld Z h0 a1 "com/example/cairn/cairn/RunContainer" "starts" "[C" (.ref ta)) (F_b : Fld Z h0 a1 "com/example/cairn/cairn/RunContainer" "ends" "[C" (.ref tb)) (F_s : Fld Z h0 a1 "com/example/cairn/cairn/RunContainer" "size" "I" (.int (2 : Int32))) (V_a : Arv Z h0 ta ka .char (3 : Int32) [(.int c0), (.int c1), (.int (7 : Int32))] (.int (0 : Int32))) (V_b : Arv Z h0 tb kb .char (3 : Int32) [(.int d0), (.int d1), (.int (9 : Int32))] (.int (0 : Int32))) (y0 : c0.toInt + (k0 : Int) = d0.toInt + 1) (y1 : 0 ≤ c0.toInt) (y2 : d0.toInt < 65536) (x0 : c1.toInt + (k1 : Int) = d1.toInt + 1) (x1 : 0 ≤ c1.toInt) (x2 : d1.toInt < 65536) :
    MetFree l (⟨"com/example/cairn/cairn/RunContainer", "valuesHash", "()I"⟩ : MethodName) (head1 (Jvm.Cond.code (⟨"com/example/cairn/cairn/RunContainer", "valuesHash", "()I"⟩ : MethodName) prog_44_method_29_code 5 (some .int) :: ws) ({ frames := 0, cells := 0, slots := 0, locals := 0 } : Room)) (fun a U => a = #[(.ref a1)] ∧ Z.Warmed39 U.vm ∧ U.heap = h0) (fun _ _ _ _ _ => True) (fun _ U o U' => ∃ v L, o = .returned v ∧ (PQ h0 n0 (.int (hr (hr 0 c0 k0) c1 k1))) v U'.heap L ∧ FrameEnd U o U' L ({ frames := 0, cells := 0, slots := 0, locals := 0 } : Room).cells ({ frames := 0, cells := 0, slots := 0, locals := 0 } : Room).slots) := by
  refine MetFree.of_bodySF (plainFor_of_name pn_1) hisR ?_
  intro p e s m args below meth c s₁ Bd hml0 hP hK
  obtain ⟨rfl, hZ, hh⟩ := hP
  have hx := Bd.exec
  have hby := Bd.bytes
  have hml : c.maxLocals = 5 := hml0
  have hown : s.vm.findClass "com/example/cairn/cairn/RunContainer" = some m.cls := findClass_of_methodNamed Bd.named
  have hnm := (name_of_methodNamed Bd.named Bd.method).1
  have X0 : Stand p l e ({ frames := 0, cells := 0, slots := 0, locals := 0 } : Room) s m #[(.ref a1)] below meth c s₁ [] 0 0 := Stand.of_body Bd
  have e0 : s₁.heap = h0 := by rw [← hh, Bd.state]; rfl
  have N0 := Fr.nil n0
  show WP p e below (GG (PQ h0 n0 (.int (hr (hr 0 c0 k0) c1 k1))) s ({ frames := 0, cells := 0, slots := 0, locals := 0 } : Room).cells ({ frames := 0, cells := 0, slots := 0, locals := 0 } : Room).slots) (s₁.setTop (entryFrame m #[(.ref a1)] 5))
  rw [ef_rm6_2 m a1]
  show WP p e below _ (s₁.setTop (mkF m 0 #[.val (.ref a1), .unset, .unset, .unset, .unset] []))
  refine own_go (fun t_ k => XS.iconst X0.here hx rfl (hb hby d6_0) k) ?_
  show WP p e below _ (s₁.setTop (mkF m 1 #[.val (.ref a1), .unset, .unset, .unset, .unset] [(.int (0 : Int32))]))
  refine own_go (fun t_ k => XS.istoreN X0.here hx rfl (hb hby d6_1) rfl (l' := #[.val (.ref a1), .val (.int (0 : Int32)), .unset, .unset, .unset]) rfl k) ?_
  show WP p e below _ (s₁.setTop (mkF m 2 #[.val (.ref a1), .val (.int (0 : Int32)), .unset, .unset, .unset] []))
  refine own_go (fun t_ k => XS.iconst X0.here hx rfl (hb hby d6_2) k) ?_
  show WP p e below _ (s₁.setTop (mkF m 3 #[.val (.ref a1), .val (.int (0 : Int32)), .unset, .unset, .unset] [(.int (0 : Int32))]))
  refine own_go (fun t_ k => XS.istoreN X0.here hx rfl (hb hby d6_3) rfl (l' := #[.val (.ref a1), .val (.int (0 : Int32)), .val (.int (0 : Int32)), .unset, .unset]) rfl k) ?_
  show WP p e below _ (s₁.setTop (mkF m 4 #[.val (.ref a1), .val (.int (0 : Int32)), .val (.int (0 : Int32)), .unset, .unset] []))
  refine own_go (fun t_ k => XS.iloadN X0.here hx rfl (hb hby d6_4) rfl k) ?_
  show WP p e below _ (s₁.setTop (mkF m 5 #[.val (.ref a1), .val (.int (0 : Int32)), .val (.int (0 : Int32)), .unset, .unset] [(.int (0 : Int32))]))
  refine own_go (fun t_ k => XS.aloadN X0.here hx rfl (hb hby d6_5) rfl rfl k) ?_
  show WP p e below _ (s₁.setTop (mkF m 6 #[.val (.ref a1), .val (.int (0 : Int32)), .val (.int (0 : Int32)), .unset, .unset] [(.ref a1), (.int (0 : Int32))]))
  obtain ⟨T1, X1, e1, st1⟩ := getF X0 hx hZ hown (host := "") (Or.inl (hw _ (List.mem_of_getElem? (i := 26) rfl))) Via.refl e0 F_s (g := (mkF m 6 #[.val (.ref a1), .val (.int (0 : Int32)), .val (.int (0 : Int32)), .unset, .unset] [(.ref a1), (.int (0 : Int32))])) rfl rfl (hb hby d6_6)
  refine own_go st1 ?_
  show WP p e below _ (T1.setTop (mkF m 9 #[.val (.ref a1), .val (.int (0 : Int32)), .val (.int (0 : Int32)), .unset, .unset] [(.int (2 : Int32)), (.int (0 : Int32))]))
  have hc9_2 : ((0 : Int32) < (2 : Int32)) := by decide
  refine own_go (fun t_ k => XS.icmpNo X1.here hx rfl (hb hby d6_9) rfl (tlt hc9_2).2.1 k) ?_
  show WP p e below _ (T1.setTop (mkF m 12 #[.val (.ref a1), .val (.int (0 : Int32)), .val (.int (0 : Int32)), .unset, .unset] []))
  refine own_go (fun t_ k => XS.aloadN X1.here hx rfl (hb hby d6_12) rfl rfl k) ?_
  show WP p e below _ (T1.setTop (mkF m 13 #[.val (.ref a1), .val (.int (0 : Int32)), .val (.int (0 : Int32)), .unset, .unset] [(.ref a1)]))
  obtain ⟨T3, X3, e3, st3⟩ := getF X1 hx hZ hown (host := "") (Or.inl (hw _ (List.mem_of_getElem? (i := 24) rfl))) Via.refl e1 F_b (g := (mkF m 13 #[.val (.ref a1), .val (.int (0 : Int32)), .val (.int (0 : Int32)), .unset, .unset] [(.ref a1)])) rfl rfl (hb hby d6_13)
  refine own_go st3 ?_
  show WP p e below _ (T3.setTop (mkF m 16 #[.val (.ref a1), .val (.int (0 : Int32)), .val (.int (0 : Int32)), .unset, .unset] [(.ref tb)]))
  refine own_go (fun t_ k => XS.iloadN X3.here hx rfl (hb hby d6_16) rfl k) ?_
  show WP p e below _ (T3.setTop (mkF m 17 #[.val (.ref a1), .val (.int (0 : Int32)), .val (.int (0 : Int32)), .unset, .unset] [(.int (0 : Int32)), (.ref tb)]))
  obtain ⟨cl4, Ar4, -, S4, M4, H4, -⟩ := id (V_b)
  have hin4 : ¬ ((0 : Int32) < 0 ∨ cl4.slots.size ≤ ((0 : Int32)).toNatClampNeg) := inb_of S4 (⟨by decide, by decide⟩)
  refine own_go (fun t_ k => X3.caload hx (j := (0 : Int32)) (v := (.int d0)) (by rw [e3]; exact Ar4.1) (State.isArrayOf_alike hZ.alike Ar4.2.1) Ar4.2.2 hin4 (H4.at hin4 rfl) (g := (mkF m 17 #[.val (.ref a1), .val (.int (0 : Int32)), .val (.int (0 : Int32)), .unset, .unset] [(.int (0 : Int32)), (.ref tb)])) rfl rfl (hb hby d6_17) _ k) ?_
  show WP p e below _ (T3.setTop (mkF m 18 #[.val (.ref a1), .val (.int (0 : Int32)), .val (.int (0 : Int32)), .unset, .unset] [(.int d0)]))
  refine own_go (fun t_ k => XS.istoreN X3.here hx rfl (hb hby d6_18) rfl (l' := #[.val (.ref a1), .val (.int (0 : Int32)), .val (.int (0 : Int32)), .val (.int d0), .unset]) rfl k) ?_
  show WP p e below _ (T3.setTop (mkF m 19 #[.val (.ref a1), .val (.int (0 : Int32)), .val (.int (0 : Int32)), .val (.int d0), .unset] []))
  refine own_go (fun t_ k => XS.aloadN X3.here hx rfl (hb hby d6_19) rfl rfl k) ?_
  show WP p e below _ (T3.setTop (mkF m 20 #[.val (.ref a1), .val (.int (0 : Int32)), .val (.int (0 : Int32)), .val (.int d0), .unset] [(.ref a1)]))
  obtain ⟨T5, X5, e5, st5⟩ := getF X3 hx hZ hown (host := "") (Or.inl (hw _ (List.mem_of_getElem? (i := 22) rfl))) Via.refl e3 F_a (g := (mkF m 20 #[.val (.ref a1), .val (.int (0 : Int32)), .val (.int (0 : Int32)), .val (.int d0), .unset] [(.ref a1)])) rfl rfl (hb hby d6_20)
  refine own_go st5 ?_
  show WP p e below _ (T5.setTop (mkF m 23 #[.val (.ref a1), .val (.int (0 : Int32)), .val (.int (0 : Int32)), .val (.int d0), .unset] [(.ref ta)]))
  refine own_go (fun t_ k => XS.iloadN X5.here hx rfl (hb hby d6_23) rfl k) ?_
  show WP p e below _ (T5.setTop (mkF m 24 #[.val (.ref a1), .val (.int (0 : Int32)), .val (.int (0 : Int32)), .val (.int d0), .unset] [(.int (0 : Int32)), (.ref ta)]))
  obtain ⟨cl6, Ar6, -, S6, M6, H6, -⟩ := id (V_a)
  have hin6 : ¬ ((0 : Int32) < 0 ∨ cl6.slots.size ≤ ((0 : Int32)).toNatClampNeg) := inb_of S6 (⟨by decide, by decide⟩)
  refine own_go (fun t_ k => X5.caload hx (j := (0 : Int32)) (v := (.int c0)) (by rw [e5]; exact Ar6.1) (State.isArrayOf_alike hZ.alike Ar6.2.1) Ar6.2.2 hin6 (H6.at hin6 rfl) (g := (mkF m 24 #[.val (.ref a1), .val (.int (0 : Int32)), .val (.int (0 : Int32)), .val (.int d0), .unset] [(.int (0 : Int32)), (.ref ta)])) rfl rfl (hb hby d6_24) _ k) ?_
  show WP p e below _ (T5.setTop (mkF m 25 #[.val (.ref a1), .val (.int (0 : Int32)), .val (.int (0 : Int32)), .val (.int d0), .unset] [(.int c0)]))
  refine own_go (fun t_ k => XS.istore X5.here hx rfl (hb hby d6_25) rfl (l' := #[.val (.ref a1), .val (.int (0 : Int32)), .val (.int (0 : Int32)), .val (.int d0), .val (.int c0)]) rfl k) ?_
  have Lp7 : ∀ (k7 : Nat) (T7 : State) (ls7 : List Loc) (X7 : Stand p l e ({ frames := 0, cells := 0, slots := 0, locals := 0 } : Room) s m #[(.ref a1)] below meth c T7 ls7 0 0) (N7 : Fr n0 ls7) (e7 : T7.heap = h0) (vh7 : Int32) (vs7 : Int32) (iva7 : vs7.toInt + (k7 : Int) = d0.toInt + 1) (ivb7 : 0 ≤ vs7.toInt) (ivc7 : hr vh7 vs7 k7 = (hr 0 c0 k0)), WP p e below (GG (PQ h0 n0 (.int (hr (hr 0 c0 k0) c1 k1))) s ({ frames := 0, cells := 0, slots := 0, locals := 0 } : Room).cells ({ frames := 0, cells := 0, slots := 0, locals := 0 } : Room).slots) (T7.setTop (mkF m 27 #[.val (.ref a1), .val (.int vh7), .val (.int (0 : Int32)), .val (.int d0), .val (.int vs7)] [])) := by
    intro k7
    induction k7 with
    | zero =>
      intro T7 ls7 X7 N7 e7 vh7 vs7 iva7 ivb7 ivc7
      show WP p e below _ (T7.setTop (mkF m 27 #[.val (.ref a1), .val (.int vh7), .val (.int (0 : Int32)), .val (.int d0), .val (.int vs7)] []))
      refine own_go (fun t_ k => XS.iload X7.here hx rfl (hb hby d6_27) rfl k) ?_
      show WP p e below _ (T7.setTop (mkF m 29 #[.val (.ref a1), .val (.int vh7), .val (.int (0 : Int32)), .val (.int d0), .val (.int vs7)] [(.int vs7)]))
      refine own_go (fun t_ k => XS.iloadN X7.here hx rfl (hb hby d6_29) rfl k) ?_
      show WP p e below _ (T7.setTop (mkF m 30 #[.val (.ref a1), .val (.int vh7), .val (.int (0 : Int32)), .val (.int d0), .val (.int vs7)] [(.int d0), (.int vs7)]))
      have hc30_8 : (d0 < vs7) := own_gt (by have q := iva7; simpa using q)
      refine own_go (fun t_ k => XS.icmpYes X7.here hx rfl (pc0 := 30) (pc' := 47) rfl (hb hby d6_30) rfl (tlt hc30_8).2.2.1 (by decide) (by decide) k) ?_
      have eq7 : vh7 = (hr 0 c0 k0) := ivc7
      clear ivc7
      subst eq7
      show WP p e below _ (T7.setTop (mkF m 47 #[.val (.ref a1), .val (.int (hr 0 c0 k0)), .val (.int (0 : Int32)), .val (.int d0), .val (.int vs7)] []))
      refine own_go (fun t_ k => XS.iinc X7.here hx rfl (hb hby d6_47) rfl (l' := #[.val (.ref a1), .val (.int (hr 0 c0 k0)), .val (.int (1 : Int32)), .val (.int d0), .val (.int vs7)]) rfl k) ?_
      show WP p e below _ (T7.setTop (mkF m 50 #[.val (.ref a1), .val (.int (hr 0 c0 k0)), .val (.int (1 : Int32)), .val (.int d0), .val (.int vs7)] []))
      refine own_go (fun t_ k => XS.goto X7.here hx rfl (pc0 := 50) (pc' := 4) rfl (hb hby d6_50) (by decide) (by decide) k) ?_
      show WP p e below _ (T7.setTop (mkF m 4 #[.val (.ref a1), .val (.int (hr 0 c0 k0)), .val (.int (1 : Int32)), .val (.int d0), .val (.int vs7)] []))
      refine own_go (fun t_ k => XS.iloadN X7.here hx rfl (hb hby d6_4) rfl k) ?_
      show WP p e below _ (T7.setTop (mkF m 5 #[.val (.ref a1), .val (.int (hr 0 c0 k0)), .val (.int (1 : Int32)), .val (.int d0), .val (.int vs7)] [(.int (1 : Int32))]))
      refine own_go (fun t_ k => XS.aloadN X7.here hx rfl (hb hby d6_5) rfl rfl k) ?_
      show WP p e below _ (T7.setTop (mkF m 6 #[.val (.ref a1), .val (.int (hr 0 c0 k0)), .val (.int (1 : Int32)), .val (.int d0), .val (.int vs7)] [(.ref a1), (.int (1 : Int32))]))
      obtain ⟨T9, X9, e9, st9⟩ := getF X7 hx hZ hown (host := "") (Or.inl (hw _ (List.mem_of_getElem? (i := 26) rfl))) Via.refl e7 F_s (g := (mkF m 6 #[.val (.ref a1), .val (.int (hr 0 c0 k0)), .val (.int (1 : Int32)), .val (.int d0), .val (.int vs7)] [(.ref a1), (.int (1 : Int32))])) rfl rfl (hb hby d6_6)
      refine own_go st9 ?_
      show WP p e below _ (T9.setTop (mkF m 9 #[.val (.ref a1), .val (.int (hr 0 c0 k0)), .val (.int (1 : Int32)), .val (.int d0), .val (.int vs7)] [(.int (2 : Int32)), (.int (1 : Int32))]))
      have hc9_10 : ((1 : Int32) < (2 : Int32)) := by decide
      refine own_go (fun t_ k => XS.icmpNo X9.here hx rfl (hb hby d6_9) rfl (tlt hc9_10).2.1 k) ?_
      show WP p e below _ (T9.setTop (mkF m 12 #[.val (.ref a1), .val (.int (hr 0 c0 k0)), .val (.int (1 : Int32)), .val (.int d0), .val (.int vs7)] []))
      refine own_go (fun t_ k => XS.aloadN X9.here hx rfl (hb hby d6_12) rfl rfl k) ?_
      show WP p e below _ (T9.setTop (mkF m 13 #[.val (.ref a1), .val (.int (hr 0 c0 k0)), .val (.int (1 : Int32)), .val (.int d0), .val (.int vs7)] [(.ref a1)]))
      obtain ⟨T11, X11, e11, st11⟩ := getF X9 hx hZ hown (host := "") (Or.inl (hw _ (List.mem_of_getElem? (i := 24) rfl))) Via.refl e9 F_b (g := (mkF m 13 #[.val (.ref a1), .val (.int (hr 0 c0 k0)), .val (.int (1 : Int32)), .val (.int d0), .val (.int vs7)] [(.ref a1)])) rfl rfl (hb hby d6_13)
      refine own_go st11 ?_
      show WP p e below _ (T11.setTop (mkF m 16 #[.val (.ref a1), .val (.int (hr 0 c0 k0)), .val (.int (1 : Int32)), .val (.int d0), .val (.int vs7)] [(.ref tb)]))
      refine own_go (fun t_ k => XS.iloadN X11.here hx rfl (hb hby d6_16) rfl k) ?_
      show WP p e below _ (T11.setTop (mkF m 17 #[.val (.ref a1), .val (.int (hr 0 c0 k0)), .val (.int (1 : Int32)), .val (.int d0), .val (.int vs7)] [(.int (1 : Int32)), (.ref tb)]))
      obtain ⟨cl12, Ar12, -, S12, M12, H12, -⟩ := id (V_b)
      have hin12 : ¬ ((1 : Int32) < 0 ∨ cl12.slots.size ≤ ((1 : Int32)).toNatClampNeg) := inb_of S12 (⟨by decide, by decide⟩)
      refine own_go (fun t_ k => X11.caload hx (j := (1 : Int32)) (v := (.int d1)) (by rw [e11]; exact Ar12.1) (State.isArrayOf_alike hZ.alike Ar12.2.1) Ar12.2.2 hin12 (H12.at hin12 rfl) (g := (mkF m 17 #[.val (.ref a1), .val (.int (hr 0 c0 k0)), .val (.int (1 : Int32)), .val (.int d0), .val (.int vs7)] [(.int (1 : Int32)), (.ref tb)])) rfl rfl (hb hby d6_17) _ k) ?_
      show WP p e below _ (T11.setTop (mkF m 18 #[.val (.ref a1), .val (.int (hr 0 c0 k0)), .val (.int (1 : Int32)), .val (.int d0), .val (.int vs7)] [(.int d1)]))
      refine own_go (fun t_ k => XS.istoreN X11.here hx rfl (hb hby d6_18) rfl (l' := #[.val (.ref a1), .val (.int (hr 0 c0 k0)), .val (.int (1 : Int32)), .val (.int d1), .val (.int vs7)]) rfl k) ?_
      show WP p e below _ (T11.setTop (mkF m 19 #[.val (.ref a1), .val (.int (hr 0 c0 k0)), .val (.int (1 : Int32)), .val (.int d1), .val (.int vs7)] []))
      refine own_go (fun t_ k => XS.aloadN X11.here hx rfl (hb hby d6_19) rfl rfl k) ?_
      show WP p e below _ (T11.setTop (mkF m 20 #[.val (.ref a1), .val (.int (hr 0 c0 k0)), .val (.int (1 : Int32)), .val (.int d1), .val (.int vs7)] [(.ref a1)]))
      obtain ⟨T13, X13, e13, st13⟩ := getF X11 hx hZ hown (host := "") (Or.inl (hw _ (List.mem_of_getElem? (i := 22) rfl))) Via.refl e11 F_a (g := (mkF m 20 #[.val (.ref a1), .val (.int (hr 0 c0 k0)), .val (.int (1 : Int32)), .val (.int d1), .val (.int vs7)] [(.ref a1)])) rfl rfl (hb hby d6_20)
      refine own_go st13 ?_
      show WP p e below _ (T13.setTop (mkF m 23 #[.val (.ref a1), .val (.int (hr 0 c0 k0)), .val (.int (1 : Int32)), .val (.int d1), .val (.int vs7)] [(.ref ta)]))
      refine own_go (fun t_ k => XS.iloadN X13.here hx rfl (hb hby d6_23) rfl k) ?_
      show WP p e below _ (T13.setTop (mkF m 24 #[.val (.ref a1), .val (.int (hr 0 c0 k0)), .val (.int (1 : Int32)), .val (.int d1), .val (.int vs7)] [(.int (1 : Int32)), (.ref ta)]))
      obtain ⟨cl14, Ar14, -, S14, M14, H14, -⟩ := id (V_a)
      have hin14 : ¬ ((1 : Int32) < 0 ∨ cl14.slots.size ≤ ((1 : Int32)).toNatClampNeg) := inb_of S14 (⟨by decide, by decide⟩)
      refine own_go (fun t_ k => X13.caload hx (j := (1 : Int32)) (v := (.int c1)) (by rw [e13]; exact Ar14.1) (State.isArrayOf_alike hZ.alike Ar14.2.1) Ar14.2.2 hin14 (H14.at hin14 rfl) (g := (mkF m 24 #[.val (.ref a1), .val (.int (hr 0 c0 k0)), .val (.int (1 : Int32)), .val (.int d1), .val (.int vs7)] [(.int (1 : Int32)), (.ref ta)])) rfl rfl (hb hby d6_24) _ k) ?_
      show WP p e below _ (T13.setTop (mkF m 25 #[.val (.ref a1), .val (.int (hr 0 c0 k0)), .val (.int (1 : Int32)), .val (.int d1), .val (.int vs7)] [(.int c1)]))
      refine own_go (fun t_ k => XS.istore X13.here hx rfl (hb hby d6_25) rfl (l' := #[.val (.ref a1), .val (.int (hr 0 c0 k0)), .val (.int (1 : Int32)), .val (.int d1), .val (.int c1)]) rfl k) ?_
      have Lp15 : ∀ (k15 : Nat) (T15 : State) (ls15 : List Loc) (X15 : Stand p l e ({ frames := 0, cells := 0, slots := 0, locals := 0 } : Room) s m #[(.ref a1)] below meth c T15 ls15 0 0) (N15 : Fr n0 ls15) (e15 : T15.heap = h0) (vh15 : Int32) (vs15 : Int32) (iva15 : vs15.toInt + (k15 : Int) = d1.toInt + 1) (ivb15 : 0 ≤ vs15.toInt) (ivc15 : hr vh15 vs15 k15 = (hr (hr 0 c0 k0) c1 k1)), WP p e below (GG (PQ h0 n0 (.int (hr (hr 0 c0 k0) c1 k1))) s ({ frames := 0, cells := 0, slots := 0, locals := 0 } : Room).cells ({ frames := 0, cells := 0, slots := 0, locals := 0 } : Room).slots) (T15.setTop (mkF m 27 #[.val (.ref a1), .val (.int vh15), .val (.int (1 : Int32)), .val (.int d1), .val (.int vs15)] [])) := by
        intro k15
        induction k15 with
        | zero =>
          intro T15 ls15 X15 N15 e15 vh15 vs15 iva15 ivb15 ivc15
          show WP p e below _ (T15.setTop (mkF m 27 #[.val (.ref a1), .val (.int vh15), .val (.int (1 : Int32)), .val (.int d1), .val (.int vs15)] []))
          refine own_go (fun t_ k => XS.iload X15.here hx rfl (hb hby d6_27) rfl k) ?_
          show WP p e below _ (T15.setTop (mkF m 29 #[.val (.ref a1), .val (.int vh15), .val (.int (1 : Int32)), .val (.int d1), .val (.int vs15)] [(.int vs15)]))
          refine own_go (fun t_ k => XS.iloadN X15.here hx rfl (hb hby d6_29) rfl k) ?_
          show WP p e below _ (T15.setTop (mkF m 30 #[.val (.ref a1), .val (.int vh15), .val (.int (1 : Int32)), .val (.int d1), .val (.int vs15)] [(.int d1), (.int vs15)]))
          have hc30_16 : (d1 < vs15) := own_gt (by have q := iva15; simpa using q)
          refine own_go (fun t_ k => XS.icmpYes X15.here hx rfl (pc0 := 30) (pc' := 47) rfl (hb hby d6_30) rfl (tlt hc30_16).2.2.1 (by decide) (by decide) k) ?_
          have eq15 : vh15 = (hr (hr 0 c0 k0) c1 k1) := ivc15
          clear ivc15
          subst eq15
          show WP p e below _ (T15.setTop (mkF m 47 #[.val (.ref a1), .val (.int (hr (hr 0 c0 k0) c1 k1)), .val (.int (1 : Int32)), .val (.int d1), .val (.int vs15)] []))
          refine own_go (fun t_ k => XS.iinc X15.here hx rfl (hb hby d6_47) rfl (l' := #[.val (.ref a1), .val (.int (hr (hr 0 c0 k0) c1 k1)), .val (.int (2 : Int32)), .val (.int d1), .val (.int vs15)]) rfl k) ?_
          show WP p e below _ (T15.setTop (mkF m 50 #[.val (.ref a1), .val (.int (hr (hr 0 c0 k0) c1 k1)), .val (.int (2 : Int32)), .val (.int d1), .val (.int vs15)] []))
          refine own_go (fun t_ k => XS.goto X15.here hx rfl (pc0 := 50) (pc' := 4) rfl (hb hby d6_50) (by decide) (by decide) k) ?_
          show WP p e below _ (T15.setTop (mkF m 4 #[.val (.ref a1), .val (.int (hr (hr 0 c0 k0) c1 k1)), .val (.int (2 : Int32)), .val (.int d1), .val (.int vs15)] []))
          refine own_go (fun t_ k => XS.iloadN X15.here hx rfl (hb hby d6_4) rfl k) ?_
          show WP p e below _ (T15.setTop (mkF m 5 #[.val (.ref a1), .val (.int (hr (hr 0 c0 k0) c1 k1)), .val (.int (2 : Int32)), .val (.int d1), .val (.int vs15)] [(.int (2 : Int32))]))
          refine own_go (fun t_ k => XS.aloadN X15.here hx rfl (hb hby d6_5) rfl rfl k) ?_
          show WP p e below _ (T15.setTop (mkF m 6 #[.val (.ref a1), .val (.int (hr (hr 0 c0 k0) c1 k1)), .val (.int (2 : Int32)), .val (.int d1), .val (.int vs15)] [(.ref a1), (.int (2 : Int32))]))
          obtain ⟨T17, X17, e17, st17⟩ := getF X15 hx hZ hown (host := "") (Or.inl (hw _ (List.mem_of_getElem? (i := 26) rfl))) Via.refl e15 F_s (g := (mkF m 6 #[.val (.ref a1), .val (.int (hr (hr 0 c0 k0) c1 k1)), .val (.int (2 : Int32)), .val (.int d1), .val (.int vs15)] [(.ref a1), (.int (2 : Int32))])) rfl rfl (hb hby d6_6)
          refine own_go st17 ?_
          show WP p e below _ (T17.setTop (mkF m 9 #[.val (.ref a1), .val (.int (hr (hr 0 c0 k0) c1 k1)), .val (.int (2 : Int32)), .val (.int d1), .val (.int vs15)] [(.int (2 : Int32)), (.int (2 : Int32))]))
          have hc9_18 : ¬ ((2 : Int32) < (2 : Int32)) := by decide
          refine own_go (fun t_ k => XS.icmpYes X17.here hx rfl (pc0 := 9) (pc' := 53) rfl (hb hby d6_9) rfl (flt hc9_18).2.1 (by decide) (by decide) k) ?_
          show WP p e below _ (T17.setTop (mkF m 53 #[.val (.ref a1), .val (.int (hr (hr 0 c0 k0) c1 k1)), .val (.int (2 : Int32)), .val (.int d1), .val (.int vs15)] []))
          refine own_go (fun t_ k => XS.iloadN X17.here hx rfl (hb hby d6_53) rfl k) ?_
          show WP p e below _ (T17.setTop (mkF m 54 #[.val (.ref a1), .val (.int (hr (hr 0 c0 k0) c1 k1)), .val (.int (2 : Int32)), .val (.int d1), .val (.int vs15)] [(.int (hr (hr 0 c0 k0) c1 k1))]))
          exact own_retI X17 hx Bd.notSynchronized Bd.returns (hb hby d6_54) (show PQ h0 n0 (.int (hr (hr 0 c0 k0) c1 k1)) _ _ _ from ⟨rfl, N15, e17⟩) (by decide) (by decide)
        | succ k15 ih15 =>
          intro T15 ls15 X15 N15 e15 vh15 vs15 iva15 ivb15 ivc15
          show WP p e below _ (T15.setTop (mkF m 27 #[.val (.ref a1), .val (.int vh15), .val (.int (1 : Int32)), .val (.int d1), .val (.int vs15)] []))
          refine own_go (fun t_ k => XS.iload X15.here hx rfl (hb hby d6_27) rfl k) ?_
          show WP p e below _ (T15.setTop (mkF m 29 #[.val (.ref a1), .val (.int vh15), .val (.int (1 : Int32)), .val (.int d1), .val (.int vs15)] [(.int vs15)]))
          refine own_go (fun t_ k => XS.iloadN X15.here hx rfl (hb hby d6_29) rfl k) ?_
          show WP p e below _ (T15.setTop (mkF m 30 #[.val (.ref a1), .val (.int vh15), .val (.int (1 : Int32)), .val (.int d1), .val (.int vs15)] [(.int d1), (.int vs15)]))
          have hc30_19 : ¬ (d1 < vs15) := own_le iva15
          refine own_go (fun t_ k => XS.icmpNo X15.here hx rfl (hb hby d6_30) rfl (flt hc30_19).2.2.1 k) ?_
          show WP p e below _ (T15.setTop (mkF m 33 #[.val (.ref a1), .val (.int vh15), .val (.int (1 : Int32)), .val (.int d1), .val (.int vs15)] []))
          refine own_go (fun t_ k => XS.bipush X15.here hx rfl (hb hby d6_33) k) ?_
          show WP p e below _ (T15.setTop (mkF m 35 #[.val (.ref a1), .val (.int vh15), .val (.int (1 : Int32)), .val (.int d1), .val (.int vs15)] [(.int (31 : Int32))]))
          refine own_go (fun t_ k => XS.iloadN X15.here hx rfl (hb hby d6_35) rfl k) ?_
          show WP p e below _ (T15.setTop (mkF m 36 #[.val (.ref a1), .val (.int vh15), .val (.int (1 : Int32)), .val (.int d1), .val (.int vs15)] [(.int vh15), (.int (31 : Int32))]))
          refine own_go (fun t_ k => XS.imul X15.here hx rfl (hb hby d6_36) rfl k) ?_
          show WP p e below _ (T15.setTop (mkF m 37 #[.val (.ref a1), .val (.int vh15), .val (.int (1 : Int32)), .val (.int d1), .val (.int vs15)] [(.int ((31 : Int32) * vh15))]))
          refine own_go (fun t_ k => XS.iload X15.here hx rfl (hb hby d6_37) rfl k) ?_
          show WP p e below _ (T15.setTop (mkF m 39 #[.val (.ref a1), .val (.int vh15), .val (.int (1 : Int32)), .val (.int d1), .val (.int vs15)] [(.int vs15), (.int ((31 : Int32) * vh15))]))
          refine own_go (fun t_ k => XS.iadd X15.here hx rfl (hb hby d6_39) rfl k) ?_
          show WP p e below _ (T15.setTop (mkF m 40 #[.val (.ref a1), .val (.int vh15), .val (.int (1 : Int32)), .val (.int d1), .val (.int vs15)] [(.int (((31 : Int32) * vh15) + vs15))]))
          refine own_go (fun t_ k => XS.istoreN X15.here hx rfl (hb hby d6_40) rfl (l' := #[.val (.ref a1), .val (.int (((31 : Int32) * vh15) + vs15)), .val (.int (1 : Int32)), .val (.int d1), .val (.int vs15)]) rfl k) ?_
          show WP p e below _ (T15.setTop (mkF m 41 #[.val (.ref a1), .val (.int (((31 : Int32) * vh15) + vs15)), .val (.int (1 : Int32)), .val (.int d1), .val (.int vs15)] []))
          refine own_go (fun t_ k => XS.iinc X15.here hx rfl (hb hby d6_41) rfl (l' := #[.val (.ref a1), .val (.int (((31 : Int32) * vh15) + vs15)), .val (.int (1 : Int32)), .val (.int d1), .val (.int (vs15 + (1 : Int32)))]) rfl k) ?_
          show WP p e below _ (T15.setTop (mkF m 44 #[.val (.ref a1), .val (.int (((31 : Int32) * vh15) + vs15)), .val (.int (1 : Int32)), .val (.int d1), .val (.int (vs15 + (1 : Int32)))] []))
          refine own_go (fun t_ k => XS.goto X15.here hx rfl (pc0 := 44) (pc' := 27) rfl (hb hby d6_44) (by decide) (by decide) k) ?_
          show WP p e below _ (T15.setTop (mkF m 27 #[.val (.ref a1), .val (.int (((31 : Int32) * vh15) + vs15)), .val (.int (1 : Int32)), .val (.int d1), .val (.int (vs15 + (1 : Int32)))] []))
          exact ih15 T15 _ X15 N15 e15 (((31 : Int32) * vh15) + vs15) (vs15 + (1 : Int32)) ((own_up iva15 ivb15 x2).1) ((own_up iva15 ivb15 x2).2) (ivc15)
      show WP p e below _ (T13.setTop (mkF m 27 #[.val (.ref a1), .val (.int (hr 0 c0 k0)), .val (.int (1 : Int32)), .val (.int d1), .val (.int c1)] []))
      exact Lp15 k1 T13 _ X13 N7 e13 (hr 0 c0 k0) c1 (x0) (x1) (rfl)
    | succ k7 ih7 =>
      intro T7 ls7 X7 N7 e7 vh7 vs7 iva7 ivb7 ivc7
      show WP p e below _ (T7.setTop (mkF m 27 #[.val (.ref a1), .val (.int vh7), .val (.int (0 : Int32)), .val (.int d0), .val (.int vs7)] []))
      refine own_go (fun t_ k => XS.iload X7.here hx rfl (hb hby d6_27) rfl k) ?_
      show WP p e below _ (T7.setTop (mkF m 29 #[.val (.ref a1), .val (.int vh7), .val (.int (0 : Int32)), .val (.int d0), .val (.int vs7)] [(.int vs7)]))
      refine own_go (fun t_ k => XS.iloadN X7.here hx rfl (hb hby d6_29) rfl k) ?_
      show WP p e below _ (T7.setTop (mkF m 30 #[.val (.ref a1), .val (.int vh7), .val (.int (0 : Int32)), .val (.int d0), .val (.int vs7)] [(.int d0), (.int vs7)]))
      have hc30_20 : ¬ (d0 < vs7) := own_le iva7
      refine own_go (fun t_ k => XS.icmpNo X7.here hx rfl (hb hby d6_30) rfl (flt hc30_20).2.2.1 k) ?_
      show WP p e below _ (T7.setTop (mkF m 33 #[.val (.ref a1), .val (.int vh7), .val (.int (0 : Int32)), .val (.int d0), .val (.int vs7)] []))
      refine own_go (fun t_ k => XS.bipush X7.here hx rfl (hb hby d6_33) k) ?_
      show WP p e below _ (T7.setTop (mkF m 35 #[.val (.ref a1), .val (.int vh7), .val (.int (0 : Int32)), .val (.int d0), .val (.int vs7)] [(.int (31 : Int32))]))
      refine own_go (fun t_ k => XS.iloadN X7.here hx rfl (hb hby d6_35) rfl k) ?_
      show WP p e below _ (T7.setTop (mkF m 36 #[.val (.ref a1), .val (.int vh7), .val (.int (0 : Int32)), .val (.int d0), .val (.int vs7)] [(.int vh7), (.int (31 : Int32))]))
      refine own_go (fun t_ k => XS.imul X7.here hx rfl (hb hby d6_36) rfl k) ?_
      show WP p e below _ (T7.setTop (mkF m 37 #[.val (.ref a1), .val (.int vh7), .val (.int (0 : Int32)), .val (.int d0), .val (.int vs7)] [(.int ((31 : Int32) * vh7))]))
      refine own_go (fun t_ k => XS.iload X7.here hx rfl (hb hby d6_37) rfl k) ?_
      show WP p e below _ (T7.setTop (mkF m 39 #[.val (.ref a1), .val (.int vh7), .val (.int (0 : Int32)), .val (.int d0), .val (.int vs7)] [(.int vs7), (.int ((31 : Int32) * vh7))]))
      refine own_go (fun t_ k => XS.iadd X7.here hx rfl (hb hby d6_39) rfl k) ?_
      show WP p e below _ (T7.setTop (mkF m 40 #[.val (.ref a1), .val (.int vh7), .val (.int (0 : Int32)), .val (.int d0), .val (.int vs7)] [(.int (((31 : Int32) * vh7) + vs7))]))
      refine own_go (fun t_ k => XS.istoreN X7.here hx rfl (hb hby d6_40) rfl (l' := #[.val (.ref a1), .val (.int (((31 : Int32) * vh7) + vs7)), .val (.int (0 : Int32)), .val (.int d0), .val (.int vs7)]) rfl k) ?_
      show WP p e below _ (T7.setTop (mkF m 41 #[.val (.ref a1), .val (.int (((31 : Int32) * vh7) + vs7)), .val (.int (0 : Int32)), .val (.int d0), .val (.int vs7)] []))
      refine own_go (fun t_ k => XS.iinc X7.here hx rfl (hb hby d6_41) rfl (l' := #[.val (.ref a1), .val (.int (((31 : Int32) * vh7) + vs7)), .val (.int (0 : Int32)), .val (.int d0), .val (.int (vs7 + (1 : Int32)))]) rfl k) ?_
      show WP p e below _ (T7.setTop (mkF m 44 #[.val (.ref a1), .val (.int (((31 : Int32) * vh7) + vs7)), .val (.int (0 : Int32)), .val (.int d0), .val (.int (vs7 + (1 : Int32)))] []))
      refine own_go (fun t_ k => XS.goto X7.here hx rfl (pc0 := 44) (pc' := 27) rfl (hb hby d6_44) (by decide) (by decide) k) ?_
      show WP p e below _ (T7.setTop (mkF m 27 #[.val (.ref a1), .val (.int (((31 : Int32) * vh7) + vs7)), .val (.int (0 : Int32)), .val (.int d0), .val (.int (vs7 + (1 : Int32)))] []))
      exact ih7 T7 _ X7 N7 e7 (((31 : Int32) * vh7) + vs7) (vs7 + (1 : Int32)) ((own_up iva7 ivb7 y2).1) ((own_up iva7 ivb7 y2).2) (ivc7)
  show WP p e below _ (T5.setTop (mkF m 27 #[.val (.ref a1), .val (.int (0 : Int32)), .val (.int (0 : Int32)), .val (.int d0), .val (.int c0)] []))
  exact Lp7 k0 T5 _ X5 N0 e5 (0 : Int32) c0 (y0) (y1) (rfl)
theorem own_size {p v : Int32} (h : f1 (p &&& (3 : Int32)) (2 : Int32) = v) : v = 0 ∨ v = 1 ∨ v = 2 := by
  have a1 := c_mask p 3 2 (by decide) (by decide)
  have o0 : (0 : Int32).toInt = 0 := rfl
  have o1 : (1 : Int32).toInt = 1 := rfl
  have o2 : (2 : Int32).toInt = 2 := rfl
  subst h
  unfold f1
  simp only [Int32.lt_iff_toInt_lt, ← Int32.toInt_inj]
  split <;> omega
theorem own_one (v : Int32) (r : Int32) (h : (1 : Int32) + (r &&& (3 : Int32)) = v) : 1 ≤ v.toInt ∧ v.toInt ≤ 4 := by
  have a1 := c_mask r 3 2 (by decide) (by decide)
  have a2 := c_iadd 1 (r &&& 3)
  have o1 : (1 : Int32).toInt = 1 := rfl
  have r2 := rng32 v
  rw [h] at a2
  omega
theorem own_c2 (x y : Int32) (h : (x.toUInt32.toUInt16.toUInt32.toInt32) = y) (h0 : 0 ≤ x.toInt) (h1 : x.toInt < 65536) : y.toInt = x.toInt := by
  have := c_i2c x
  rw [h] at this
  omega
theorem own_cc (x : Int32) (h0 : 0 ≤ x.toInt) (h1 : x.toInt < 65536) : (x.toUInt32.toUInt16.toUInt32.toInt32).toUInt32.toUInt16.toUInt32.toInt32 = x := by
  have a1 := own_c2 x _ rfl h0 h1
  have a2 := own_c2 (x.toUInt32.toUInt16.toUInt32.toInt32) _ rfl (by omega) (by omega)
  exact Int32.toInt_inj.mp (by omega)
theorem own_addrun (h s n : Int32) (h1 : 1 ≤ n.toInt) (h4 : n.toInt ≤ 4) : f5 h s n = hr h s n.toInt.toNat := by
  have o1 : (1 : Int32).toInt = 1 := rfl
  have o2 : (2 : Int32).toInt = 2 := rfl
  have o3 : (3 : Int32).toInt = 3 := rfl
  have e1 : s + 1 + 1 = s + 2 := by rw [Int32.add_assoc]; rfl
  have e2 : s + 2 + 1 = s + 3 := by rw [Int32.add_assoc]; rfl
  have hh : n.toInt = 1 ∨ n.toInt = 2 ∨ n.toInt = 3 ∨ n.toInt = 4 := by omega
  unfold f5
  simp only [Int32.lt_iff_toInt_lt, o1, o2, o3]
  rcases hh with q | q | q | q <;> rw [q] <;> simp [hr, e1, e2]
theorem own_r0 {p1 p3 n s e : Int32} (h1 : ((1 : Int32) + (p3 &&& (3 : Int32))) = n) (h2 : (f1 (p1 &&& (65535 : Int32)) ((65536 : Int32) - n)) = s) (h3 : ((s + n) - (1 : Int32)) = e) : 0 ≤ s.toInt ∧ e.toInt < 65536 ∧ e.toInt + 1 = s.toInt + n.toInt ∧ 1 ≤ n.toInt ∧ n.toInt ≤ 4 := by
  have a1 := own_one _ _ h1
  have a2 := c_mask p1 65535 16 (by decide) (by decide)
  have a3 := c_isub 65536 n
  have a4 := c_iadd s n
  have a5 := c_isub (s + n) 1
  have r1 := rng32 (65536 - n)
  have r2 := rng32 (s + n)
  have r3 := rng32 ((s + n) - 1)
  have o1 : (1 : Int32).toInt = 1 := rfl
  have o2 : (65536 : Int32).toInt = 65536 := rfl
  have a6 : 0 ≤ s.toInt ∧ s.toInt ≤ 65536 - n.toInt := by
    subst h2
    unfold f1
    split <;> rename_i q <;> simp only [Int32.lt_iff_toInt_lt] at q <;> omega
  rw [h3] at a5 r3
  omega
theorem own_runs {s e n : Int32} (q : 0 ≤ s.toInt ∧ e.toInt < 65536 ∧ e.toInt + 1 = s.toInt + n.toInt ∧ 1 ≤ n.toInt ∧ n.toInt ≤ 4) : ((s.toUInt32.toUInt16.toUInt32.toInt32).toUInt32.toUInt16.toUInt32.toInt32).toInt + ((n.toInt.toNat : Nat) : Int) = ((e.toUInt32.toUInt16.toUInt32.toInt32).toUInt32.toUInt16.toUInt32.toInt32).toInt + 1 ∧ 0 ≤ ((s.toUInt32.toUInt16.toUInt32.toInt32).toUInt32.toUInt16.toUInt32.toInt32).toInt ∧ ((e.toUInt32.toUInt16.toUInt32.toInt32).toUInt32.toUInt16.toUInt32.toInt32).toInt < 65536 := by
  rw [own_cc s (by omega) (by omega), own_cc e (by omega) (by omega)]
  omega
theorem own_r1 {p2 r n e0 z ch s e : Int32} (h1 : ((1 : Int32) + (r &&& (3 : Int32))) = n) (b0 : 0 ≤ e0.toInt) (b1 : e0.toInt < 65536) (hz : z.toInt = 0 ∨ z.toInt = 1) (h2 : ((((65536 : Int32) - n) - e0) - z) = ch) (hp : (0 : Int32) < ch) (h3 : (((e0 + (1 : Int32)) + z) + ((p2 &&& (2147483647 : Int32)) % ch)) = s) (h4 : ((s + n) - (1 : Int32)) = e) : 0 ≤ s.toInt ∧ e.toInt < 65536 ∧ e.toInt + 1 = s.toInt + n.toInt ∧ 1 ≤ n.toInt ∧ n.toInt ≤ 4 := by
  have a1 := own_one _ _ h1
  have a2 := c_mask p2 2147483647 31 (by decide) (by decide)
  have a3 := c_isub 65536 n
  have a4 := c_isub ((65536 : Int32) - n) e0
  have a5 := c_isub (((65536 : Int32) - n) - e0) z
  have o1 : (1 : Int32).toInt = 1 := rfl
  have o0 : (0 : Int32).toInt = 0 := rfl
  have o2 : (65536 : Int32).toInt = 65536 := rfl
  have r1 := rng32 (65536 - n)
  have r2 := rng32 (65536 - n - e0)
  rw [h2] at a5
  rw [Int32.lt_iff_toInt_lt, o0] at hp
  have r3 := rng32 ch
  have c1 : ch.toInt = 65536 - n.toInt - e0.toInt - z.toInt := by omega
  have a6 := (c_iremV (p2 &&& 2147483647) ch).1 (by omega) hp
  have a7 := c_iadd e0 1
  have a8 := c_iadd (e0 + 1) z
  have a9 := c_iadd ((e0 + 1) + z) ((p2 &&& 2147483647) % ch)
  have r4 := rng32 (e0 + 1)
  have r5 := rng32 ((e0 + 1) + z)
  rw [h3] at a9
  have r6 := rng32 s
  have s1 : s.toInt = e0.toInt + 1 + z.toInt + ((p2 &&& 2147483647) % ch).toInt := by omega
  have b2 := c_iadd s n
  have b3 := c_isub (s + n) 1
  have r7 := rng32 (s + n)
  rw [h4] at b3
  have r8 := rng32 e
  omega
theorem own_gap {z y : Int32} (h : z = (if y = (0 : Int32) then (1 : Int32) else (0 : Int32))) : z.toInt = 0 ∨ z.toInt = 1 := by
  rw [h]
  split
  · exact Or.inr rfl
  · exact Or.inl rfl
theorem pd_1 : parseMethodDescriptor "(II)I" = some ⟨[.int, .int], some .int⟩ := by decide +kernel
theorem pd_2 : parseMethodDescriptor "([C[CIIZ)V" = some ⟨[(.array .char), (.array .char), .int, .int, .boolean], none⟩ := by decide +kernel
theorem pd_3 : parseMethodDescriptor "()I" = some ⟨[], some .int⟩ := by decide +kernel
theorem pd_4 : parseMethodDescriptor "(III)I" = some ⟨[.int, .int, .int], some .int⟩ := by decide +kernel
theorem own_law_1 {p1 : Int32} {p2 : Int32} {p3 : Int32} {p4 : Int32} {z43_S0 : Int32} {vi45 : Int32} {vi46 : Int32} {vi48 : Int32} {vi49 : Int32} {z51_S0 : Int32} {vi53 : Int32} {z55_L12 : Int32} {vi57 : Int32} {vi78 : Int32} {vi81 : Int32} {z83_S0 : Int32}
    (he2 : (f1 (p4 &&& (3 : Int32)) (2 : Int32)) = (1 : Int32))
    (hz43_S0 : z43_S0 = (if (p4 &&& (4 : Int32)) = (0 : Int32) then (0 : Int32) else (1 : Int32)))
    (he45 : ((1 : Int32) + (p3 &&& (3 : Int32))) = vi45)
    (he46 : ((1 : Int32) + (((p3.toUInt32 >>> ((2 : Int32) &&& 31).toUInt32).toInt32) &&& (3 : Int32))) = vi46)
    (he48 : (f1 (p1 &&& (65535 : Int32)) ((65536 : Int32) - vi45)) = vi48)
    (he49 : ((vi48 + vi45) - (1 : Int32)) = vi49)
    (hz51_S0 : z51_S0 = (if z43_S0 = (0 : Int32) then (1 : Int32) else (0 : Int32)))
    (he53 : ((((65536 : Int32) - vi46) - vi49) - z51_S0) = vi53)
    (hz55_L12 : z55_L12 = (if (0 : Int32) < vi53 then (((vi49 + (1 : Int32)) + z51_S0) + ((p2 &&& (2147483647 : Int32)) % vi53)) else (0 : Int32)))
    (he57 : ((z55_L12 + vi46) - (1 : Int32)) = vi57)
    (he78 : (f5 (0 : Int32) vi48 vi45) = vi78)
    (he81 : (hr 0 ((vi48.toUInt32.toUInt16.toUInt32.toInt32).toUInt32.toUInt16.toUInt32.toInt32) (vi45).toInt.toNat) = vi81)
    (hz83_S0 : z83_S0 = (if vi81 = vi78 then (1 : Int32) else (0 : Int32)))  : z83_S0 = 1 := by
  have q0 := own_r0 he45 he48 he49
  rw [own_cc vi48 (by omega) (by omega)] at he81
  rw [own_addrun _ _ _ q0.2.2.2.1 q0.2.2.2.2] at he78
  have e : vi81 = vi78 := by rw [← he81, ← he78]
  rw [if_pos e] at hz83_S0
  exact hz83_S0
theorem own_law_2 {p1 : Int32} {p2 : Int32} {p3 : Int32} {p4 : Int32} {z87_S0 : Int32} {vi89 : Int32} {vi90 : Int32} {vi92 : Int32} {vi93 : Int32} {z95_S0 : Int32} {vi97 : Int32} {vi99 : Int32} {vi100 : Int32} {vi117 : Int32} {vi122 : Int32} {vi125 : Int32} {vi127 : Int32} {z129_S0 : Int32}
    (he2 : (f1 (p4 &&& (3 : Int32)) (2 : Int32)) = (2 : Int32))
    (hz87_S0 : z87_S0 = (if (p4 &&& (4 : Int32)) = (0 : Int32) then (0 : Int32) else (1 : Int32)))
    (he89 : ((1 : Int32) + (p3 &&& (3 : Int32))) = vi89)
    (he90 : ((1 : Int32) + (((p3.toUInt32 >>> ((2 : Int32) &&& 31).toUInt32).toInt32) &&& (3 : Int32))) = vi90)
    (he92 : (f1 (p1 &&& (65535 : Int32)) ((65536 : Int32) - vi89)) = vi92)
    (he93 : ((vi92 + vi89) - (1 : Int32)) = vi93)
    (hz95_S0 : z95_S0 = (if z87_S0 = (0 : Int32) then (1 : Int32) else (0 : Int32)))
    (he97 : ((((65536 : Int32) - vi90) - vi93) - z95_S0) = vi97)
    (he99 : (((vi93 + (1 : Int32)) + z95_S0) + ((p2 &&& (2147483647 : Int32)) % vi97)) = vi99)
    (he100 : ((vi99 + vi90) - (1 : Int32)) = vi100)
    (he117 : (vi89 + vi90) = vi117)
    (he122 : (f5 (0 : Int32) vi92 vi89) = vi122)
    (he125 : (f5 vi122 vi99 vi90) = vi125)
    (he127 : (hr (hr 0 ((vi92.toUInt32.toUInt16.toUInt32.toInt32).toUInt32.toUInt16.toUInt32.toInt32) (vi89).toInt.toNat) ((vi99.toUInt32.toUInt16.toUInt32.toInt32).toUInt32.toUInt16.toUInt32.toInt32) (vi90).toInt.toNat) = vi127)
    (hz129_S0 : z129_S0 = (if vi127 = vi125 then (1 : Int32) else (0 : Int32))) (hc91_98 : ((0 : Int32) < vi97)) : z129_S0 = 1 := by
  have q0 := own_r0 he89 he92 he93
  have q1 := own_r1 he90 (by omega) q0.2.1 (own_gap hz95_S0) he97 hc91_98 he99 he100
  rw [own_cc vi92 (by omega) (by omega), own_cc vi99 (by omega) (by omega)] at he127
  rw [own_addrun _ _ _ q0.2.2.2.1 q0.2.2.2.2] at he122
  rw [own_addrun _ _ _ q1.2.2.2.1 q1.2.2.2.2] at he125
  have e : vi127 = vi125 := by rw [← he127, ← he125]; rw [← he122]
  rw [if_pos e] at hz129_S0
  exact hz129_S0
theorem ef_rm0 (m : MethodId) (x0 : Int32) (x1 : Int32) (x2 : Int32) (x3 : Int32) : entryFrame m #[(.int x0), (.int x1), (.int x2), (.int x3)] maxLocals = mkF m 0 #[.val (.int x0), .val (.int x1), .val (.int x2), .val (.int x3), .unset, .unset, .unset, .unset, .unset, .unset, .unset, .unset, .unset, .unset, .unset, .unset, .unset, .unset, .unset] [] := by first | (simp [entryFrame, mkF, argsToLocals, Value.category, maxLocals]; done) | rfl
set_option maxRecDepth 65536 in
set_option maxHeartbeats 40000000 in
theorem rm0 (l : Launch) (Z : State) (a0 : Array Value) (hw : ∀ d ∈ tables_1, d.before a0 Z = true) (ws : List Jvm.Cond) (p1 : Int32) (p2 : Int32) (p3 : Int32) (p4 : Int32) (h0 : Heap) (n0 : Nat) (Z0 : n0 ≤ h0.size) :
    MetFree l x (head1 (Jvm.Cond.code x code maxLocals ret :: ws) room_1) (fun a U => a = #[(.int p1), (.int p2), (.int p3), (.int p4)] ∧ Z.Warmed39 U.vm ∧ U.heap = h0) (fun _ _ _ _ _ => True) (fun _ U o U' => ∃ v L, o = .returned v ∧ (Q0 n0) v U'.heap L ∧ FrameEnd U o U' L room_1.cells room_1.slots) := by
  refine MetFree.of_bodySF (plainFor_of_name pn_2) hisR ?_
  intro p e s m args below meth c s₁ Bd hml0 hP hK
  obtain ⟨rfl, hZ, hh⟩ := hP
  have hx := Bd.exec
  have hby := Bd.bytes
  have hml : c.maxLocals = 19 := hml0
  have hown : s.vm.findClass "com/example/cairn/cairn/RunContainerValuesHashPinLaw" = some m.cls := findClass_of_methodNamed Bd.named
  have hnm := (name_of_methodNamed Bd.named Bd.method).1
  have X0 : Stand p l e room_1 s m #[(.int p1), (.int p2), (.int p3), (.int p4)] below meth c s₁ [] 0 0 := Stand.of_body Bd
  have e0 : s₁.heap = h0 := by rw [← hh, Bd.state]; rfl
  have N0 := Fr.nil n0
  show WP p e below (GG (Q0 n0) s room_1.cells room_1.slots) (s₁.setTop (entryFrame m #[(.int p1), (.int p2), (.int p3), (.int p4)] maxLocals))
  rw [ef_rm0 m p1 p2 p3 p4]
  show WP p e below _ (s₁.setTop (mkF m 0 #[.val (.int p1), .val (.int p2), .val (.int p3), .val (.int p4), .unset, .unset, .unset, .unset, .unset, .unset, .unset, .unset, .unset, .unset, .unset, .unset, .unset, .unset, .unset] []))
  refine own_go (fun t_ k => XS.iloadN X0.here hx rfl (hb hby at_0) rfl k) ?_
  show WP p e below _ (s₁.setTop (mkF m 1 #[.val (.int p1), .val (.int p2), .val (.int p3), .val (.int p4), .unset, .unset, .unset, .unset, .unset, .unset, .unset, .unset, .unset, .unset, .unset, .unset, .unset, .unset, .unset] [(.int p4)]))
  refine own_go (fun t_ k => XS.iconst X0.here hx rfl (hb hby at_1) k) ?_
  show WP p e below _ (s₁.setTop (mkF m 2 #[.val (.int p1), .val (.int p2), .val (.int p3), .val (.int p4), .unset, .unset, .unset, .unset, .unset, .unset, .unset, .unset, .unset, .unset, .unset, .unset, .unset, .unset, .unset] [(.int (3 : Int32)), (.int p4)]))
  refine own_go (fun t_ k => XS.iand X0.here hx rfl (hb hby at_2) rfl k) ?_
  show WP p e below _ (s₁.setTop (mkF m 3 #[.val (.int p1), .val (.int p2), .val (.int p3), .val (.int p4), .unset, .unset, .unset, .unset, .unset, .unset, .unset, .unset, .unset, .unset, .unset, .unset, .unset, .unset, .unset] [(.int (p4 &&& (3 : Int32)))]))
  refine own_go (fun t_ k => XS.iconst X0.here hx rfl (hb hby at_3) k) ?_
  show WP p e below _ (s₁.setTop (mkF m 4 #[.val (.int p1), .val (.int p2), .val (.int p3), .val (.int p4), .unset, .unset, .unset, .unset, .unset, .unset, .unset, .unset, .unset, .unset, .unset, .unset, .unset, .unset, .unset] [(.int (2 : Int32)), (.int (p4 &&& (3 : Int32)))]))
  obtain ⟨_, _, ⟨T1, L1, k1, n1⟩, -, X1, ⟨Lc1, hQ1, l1, y1, z1⟩, st1⟩ := Jvm.LawKit.callS X0 hx (y := (⟨"java/lang/Math", "min", "(II)I"⟩ : MethodName)) hown (mvT hZ (hw _ (List.mem_of_getElem? (i := 0) rfl))) (mvT hZ (hw _ (List.mem_of_getElem? (i := 1) rfl))) (mvT hZ (hw _ (List.mem_of_getElem? (i := 2) rfl))) (mvT hZ (hw _ (List.mem_of_getElem? (i := 3) rfl))) (by decide) (backOf (W := 0) (rm1 l Z a0 hw [] (p4 &&& (3 : Int32)) (2 : Int32) h0 n0) hZ (hw _ (List.mem_of_getElem? (i := 3) rfl)) (hw _ (List.mem_of_getElem? (i := 2) rfl)) (by decide) (by decide)) (g := (mkF m 4 #[.val (.int p1), .val (.int p2), .val (.int p3), .val (.int p4), .unset, .unset, .unset, .unset, .unset, .unset, .unset, .unset, .unset, .unset, .unset, .unset, .unset, .unset, .unset] [(.int (2 : Int32)), (.int (p4 &&& (3 : Int32)))])) rfl (by rw [hml]; rfl) (argsL := [(.int (p4 &&& (3 : Int32))), (.int (2 : Int32))]) (rest := []) (lenOf pd_1 rfl) rfl (by show 2 * 0 + _ ≤ _; exact Nat.le_of_eq rfl) (hb hby at_4) (fun _ _ => ⟨rfl, e0, (by decide : 0 + 0 ≤ _), (by decide : 0 + 0 ≤ _)⟩)
  dsimp only [Pt.U, Pt.locs, Pt.cells, Pt.slots] at X1 l1 y1 z1 st1 hQ1
  subst l1 y1 z1
  obtain ⟨rfl, N1q, e1⟩ := hQ1
  have N1 := Fr.app N0 N1q
  replace X1 : Stand p l e room_1 s m _ below meth c T1 _ 0 0 := X1
  refine own_go st1 ?_
  show WP p e below _ (T1.setTop (mkF m 7 #[.val (.int p1), .val (.int p2), .val (.int p3), .val (.int p4), .unset, .unset, .unset, .unset, .unset, .unset, .unset, .unset, .unset, .unset, .unset, .unset, .unset, .unset, .unset] [(.int (f1 (p4 &&& (3 : Int32)) (2 : Int32)))]))
  generalize he2 : (f1 (p4 &&& (3 : Int32)) (2 : Int32)) = vi2
  show WP p e below _ (T1.setTop (mkF m 7 #[.val (.int p1), .val (.int p2), .val (.int p3), .val (.int p4), .unset, .unset, .unset, .unset, .unset, .unset, .unset, .unset, .unset, .unset, .unset, .unset, .unset, .unset, .unset] [(.int vi2)]))
  refine own_go (fun t_ k => XS.istore X1.here hx rfl (hb hby at_7) rfl (l' := #[.val (.int p1), .val (.int p2), .val (.int p3), .val (.int p4), .val (.int vi2), .unset, .unset, .unset, .unset, .unset, .unset, .unset, .unset, .unset, .unset, .unset, .unset, .unset, .unset]) rfl k) ?_
  rcases own_size he2 with hs3 | hs3 | hs3
  · subst hs3
    show WP p e below _ (T1.setTop (mkF m 9 #[.val (.int p1), .val (.int p2), .val (.int p3), .val (.int p4), .val (.int (0 : Int32)), .unset, .unset, .unset, .unset, .unset, .unset, .unset, .unset, .unset, .unset, .unset, .unset, .unset, .unset] []))
    refine own_go (fun t_ k => XS.iloadN X1.here hx rfl (hb hby at_9) rfl k) ?_
    show WP p e below _ (T1.setTop (mkF m 10 #[.val (.int p1), .val (.int p2), .val (.int p3), .val (.int p4), .val (.int (0 : Int32)), .unset, .unset, .unset, .unset, .unset, .unset, .unset, .unset, .unset, .unset, .unset, .unset, .unset, .unset] [(.int p4)]))
    refine own_go (fun t_ k => XS.iconst X1.here hx rfl (hb hby at_10) k) ?_
    show WP p e below _ (T1.setTop (mkF m 11 #[.val (.int p1), .val (.int p2), .val (.int p3), .val (.int p4), .val (.int (0 : Int32)), .unset, .unset, .unset, .unset, .unset, .unset, .unset, .unset, .unset, .unset, .unset, .unset, .unset, .unset] [(.int (4 : Int32)), (.int p4)]))
    refine own_go (fun t_ k => XS.iand X1.here hx rfl (hb hby at_11) rfl k) ?_
    show WP p e below _ (T1.setTop (mkF m 12 #[.val (.int p1), .val (.int p2), .val (.int p3), .val (.int p4), .val (.int (0 : Int32)), .unset, .unset, .unset, .unset, .unset, .unset, .unset, .unset, .unset, .unset, .unset, .unset, .unset, .unset] [(.int (p4 &&& (4 : Int32)))]))
    have J6 : ∀ (T6 : State) (ls6 : List Loc) (X6 : Stand p l e room_1 s m #[(.int p1), (.int p2), (.int p3), (.int p4)] below meth c T6 ls6 0 0) (N6 : Fr n0 ls6) (e6 : T6.heap = h0) (z5_S0 : Int32) (hz5_S0 : z5_S0 = (if (p4 &&& (4 : Int32)) = (0 : Int32) then (0 : Int32) else (1 : Int32))), WP p e below (GG (Q0 n0) s room_1.cells room_1.slots) (T6.setTop (mkF m 20 #[.val (.int p1), .val (.int p2), .val (.int p3), .val (.int p4), .val (.int (0 : Int32)), .unset, .unset, .unset, .unset, .unset, .unset, .unset, .unset, .unset, .unset, .unset, .unset, .unset, .unset] [(.int z5_S0)])) := by
      intro T6 ls6 X6 N6 e6 z5_S0 hz5_S0
      show WP p e below _ (T6.setTop (mkF m 20 #[.val (.int p1), .val (.int p2), .val (.int p3), .val (.int p4), .val (.int (0 : Int32)), .unset, .unset, .unset, .unset, .unset, .unset, .unset, .unset, .unset, .unset, .unset, .unset, .unset, .unset] [(.int z5_S0)]))
      refine own_go (fun t_ k => XS.istore X6.here hx rfl (hb hby at_20) rfl (l' := #[.val (.int p1), .val (.int p2), .val (.int p3), .val (.int p4), .val (.int (0 : Int32)), .val (.int z5_S0), .unset, .unset, .unset, .unset, .unset, .unset, .unset, .unset, .unset, .unset, .unset, .unset, .unset]) rfl k) ?_
      show WP p e below _ (T6.setTop (mkF m 22 #[.val (.int p1), .val (.int p2), .val (.int p3), .val (.int p4), .val (.int (0 : Int32)), .val (.int z5_S0), .unset, .unset, .unset, .unset, .unset, .unset, .unset, .unset, .unset, .unset, .unset, .unset, .unset] []))
      refine own_go (fun t_ k => XS.iconst X6.here hx rfl (hb hby at_22) k) ?_
      show WP p e below _ (T6.setTop (mkF m 23 #[.val (.int p1), .val (.int p2), .val (.int p3), .val (.int p4), .val (.int (0 : Int32)), .val (.int z5_S0), .unset, .unset, .unset, .unset, .unset, .unset, .unset, .unset, .unset, .unset, .unset, .unset, .unset] [(.int (1 : Int32))]))
      refine own_go (fun t_ k => XS.iloadN X6.here hx rfl (hb hby at_23) rfl k) ?_
      show WP p e below _ (T6.setTop (mkF m 24 #[.val (.int p1), .val (.int p2), .val (.int p3), .val (.int p4), .val (.int (0 : Int32)), .val (.int z5_S0), .unset, .unset, .unset, .unset, .unset, .unset, .unset, .unset, .unset, .unset, .unset, .unset, .unset] [(.int p3), (.int (1 : Int32))]))
      refine own_go (fun t_ k => XS.iconst X6.here hx rfl (hb hby at_24) k) ?_
      show WP p e below _ (T6.setTop (mkF m 25 #[.val (.int p1), .val (.int p2), .val (.int p3), .val (.int p4), .val (.int (0 : Int32)), .val (.int z5_S0), .unset, .unset, .unset, .unset, .unset, .unset, .unset, .unset, .unset, .unset, .unset, .unset, .unset] [(.int (3 : Int32)), (.int p3), (.int (1 : Int32))]))
      refine own_go (fun t_ k => XS.iand X6.here hx rfl (hb hby at_25) rfl k) ?_
      show WP p e below _ (T6.setTop (mkF m 26 #[.val (.int p1), .val (.int p2), .val (.int p3), .val (.int p4), .val (.int (0 : Int32)), .val (.int z5_S0), .unset, .unset, .unset, .unset, .unset, .unset, .unset, .unset, .unset, .unset, .unset, .unset, .unset] [(.int (p3 &&& (3 : Int32))), (.int (1 : Int32))]))
      refine own_go (fun t_ k => XS.iadd X6.here hx rfl (hb hby at_26) rfl k) ?_
      show WP p e below _ (T6.setTop (mkF m 27 #[.val (.int p1), .val (.int p2), .val (.int p3), .val (.int p4), .val (.int (0 : Int32)), .val (.int z5_S0), .unset, .unset, .unset, .unset, .unset, .unset, .unset, .unset, .unset, .unset, .unset, .unset, .unset] [(.int ((1 : Int32) + (p3 &&& (3 : Int32))))]))
      refine own_go (fun t_ k => XS.istore X6.here hx rfl (hb hby at_27) rfl (l' := #[.val (.int p1), .val (.int p2), .val (.int p3), .val (.int p4), .val (.int (0 : Int32)), .val (.int z5_S0), .val (.int ((1 : Int32) + (p3 &&& (3 : Int32)))), .unset, .unset, .unset, .unset, .unset, .unset, .unset, .unset, .unset, .unset, .unset, .unset]) rfl k) ?_
      show WP p e below _ (T6.setTop (mkF m 29 #[.val (.int p1), .val (.int p2), .val (.int p3), .val (.int p4), .val (.int (0 : Int32)), .val (.int z5_S0), .val (.int ((1 : Int32) + (p3 &&& (3 : Int32)))), .unset, .unset, .unset, .unset, .unset, .unset, .unset, .unset, .unset, .unset, .unset, .unset] []))
      generalize he7 : ((1 : Int32) + (p3 &&& (3 : Int32))) = vi7
      show WP p e below _ (T6.setTop (mkF m 29 #[.val (.int p1), .val (.int p2), .val (.int p3), .val (.int p4), .val (.int (0 : Int32)), .val (.int z5_S0), .val (.int vi7), .unset, .unset, .unset, .unset, .unset, .unset, .unset, .unset, .unset, .unset, .unset, .unset] []))
      refine own_go (fun t_ k => XS.iconst X6.here hx rfl (hb hby at_29) k) ?_
      show WP p e below _ (T6.setTop (mkF m 30 #[.val (.int p1), .val (.int p2), .val (.int p3), .val (.int p4), .val (.int (0 : Int32)), .val (.int z5_S0), .val (.int vi7), .unset, .unset, .unset, .unset, .unset, .unset, .unset, .unset, .unset, .unset, .unset, .unset] [(.int (1 : Int32))]))
      refine own_go (fun t_ k => XS.iloadN X6.here hx rfl (hb hby at_30) rfl k) ?_
      show WP p e below _ (T6.setTop (mkF m 31 #[.val (.int p1), .val (.int p2), .val (.int p3), .val (.int p4), .val (.int (0 : Int32)), .val (.int z5_S0), .val (.int vi7), .unset, .unset, .unset, .unset, .unset, .unset, .unset, .unset, .unset, .unset, .unset, .unset] [(.int p3), (.int (1 : Int32))]))
      refine own_go (fun t_ k => XS.iconst X6.here hx rfl (hb hby at_31) k) ?_
      show WP p e below _ (T6.setTop (mkF m 32 #[.val (.int p1), .val (.int p2), .val (.int p3), .val (.int p4), .val (.int (0 : Int32)), .val (.int z5_S0), .val (.int vi7), .unset, .unset, .unset, .unset, .unset, .unset, .unset, .unset, .unset, .unset, .unset, .unset] [(.int (2 : Int32)), (.int p3), (.int (1 : Int32))]))
      refine own_go (fun t_ k => XS.iushr X6.here hx rfl (hb hby at_32) rfl k) ?_
      show WP p e below _ (T6.setTop (mkF m 33 #[.val (.int p1), .val (.int p2), .val (.int p3), .val (.int p4), .val (.int (0 : Int32)), .val (.int z5_S0), .val (.int vi7), .unset, .unset, .unset, .unset, .unset, .unset, .unset, .unset, .unset, .unset, .unset, .unset] [(.int ((p3.toUInt32 >>> ((2 : Int32) &&& 31).toUInt32).toInt32)), (.int (1 : Int32))]))
      refine own_go (fun t_ k => XS.iconst X6.here hx rfl (hb hby at_33) k) ?_
      show WP p e below _ (T6.setTop (mkF m 34 #[.val (.int p1), .val (.int p2), .val (.int p3), .val (.int p4), .val (.int (0 : Int32)), .val (.int z5_S0), .val (.int vi7), .unset, .unset, .unset, .unset, .unset, .unset, .unset, .unset, .unset, .unset, .unset, .unset] [(.int (3 : Int32)), (.int ((p3.toUInt32 >>> ((2 : Int32) &&& 31).toUInt32).toInt32)), (.int (1 : Int32))]))
      refine own_go (fun t_ k => XS.iand X6.here hx rfl (hb hby at_34) rfl k) ?_
      show WP p e below _ (T6.setTop (mkF m 35 #[.val (.int p1), .val (.int p2), .val (.int p3), .val (.int p4), .val (.int (0 : Int32)), .val (.int z5_S0), .val (.int vi7), .unset, .unset, .unset, .unset, .unset, .unset, .unset, .unset, .unset, .unset, .unset, .unset] [(.int (((p3.toUInt32 >>> ((2 : Int32) &&& 31).toUInt32).toInt32) &&& (3 : Int32))), (.int (1 : Int32))]))
      refine own_go (fun t_ k => XS.iadd X6.here hx rfl (hb hby at_35) rfl k) ?_
      show WP p e below _ (T6.setTop (mkF m 36 #[.val (.int p1), .val (.int p2), .val (.int p3), .val (.int p4), .val (.int (0 : Int32)), .val (.int z5_S0), .val (.int vi7), .unset, .unset, .unset, .unset, .unset, .unset, .unset, .unset, .unset, .unset, .unset, .unset] [(.int ((1 : Int32) + (((p3.toUInt32 >>> ((2 : Int32) &&& 31).toUInt32).toInt32) &&& (3 : Int32))))]))
      refine own_go (fun t_ k => XS.istore X6.here hx rfl (hb hby at_36) rfl (l' := #[.val (.int p1), .val (.int p2), .val (.int p3), .val (.int p4), .val (.int (0 : Int32)), .val (.int z5_S0), .val (.int vi7), .val (.int ((1 : Int32) + (((p3.toUInt32 >>> ((2 : Int32) &&& 31).toUInt32).toInt32) &&& (3 : Int32)))), .unset, .unset, .unset, .unset, .unset, .unset, .unset, .unset, .unset, .unset, .unset]) rfl k) ?_
      show WP p e below _ (T6.setTop (mkF m 38 #[.val (.int p1), .val (.int p2), .val (.int p3), .val (.int p4), .val (.int (0 : Int32)), .val (.int z5_S0), .val (.int vi7), .val (.int ((1 : Int32) + (((p3.toUInt32 >>> ((2 : Int32) &&& 31).toUInt32).toInt32) &&& (3 : Int32)))), .unset, .unset, .unset, .unset, .unset, .unset, .unset, .unset, .unset, .unset, .unset] []))
      generalize he8 : ((1 : Int32) + (((p3.toUInt32 >>> ((2 : Int32) &&& 31).toUInt32).toInt32) &&& (3 : Int32))) = vi8
      show WP p e below _ (T6.setTop (mkF m 38 #[.val (.int p1), .val (.int p2), .val (.int p3), .val (.int p4), .val (.int (0 : Int32)), .val (.int z5_S0), .val (.int vi7), .val (.int vi8), .unset, .unset, .unset, .unset, .unset, .unset, .unset, .unset, .unset, .unset, .unset] []))
      refine own_go (fun t_ k => XS.iloadN X6.here hx rfl (hb hby at_38) rfl k) ?_
      show WP p e below _ (T6.setTop (mkF m 39 #[.val (.int p1), .val (.int p2), .val (.int p3), .val (.int p4), .val (.int (0 : Int32)), .val (.int z5_S0), .val (.int vi7), .val (.int vi8), .unset, .unset, .unset, .unset, .unset, .unset, .unset, .unset, .unset, .unset, .unset] [(.int p1)]))
      refine own_go (fun t_ k => X6.ldcInt hx hown (mvT hZ (hw _ (List.mem_of_getElem? (i := 4) rfl))) (g := (mkF m 39 #[.val (.int p1), .val (.int p2), .val (.int p3), .val (.int p4), .val (.int (0 : Int32)), .val (.int z5_S0), .val (.int vi7), .val (.int vi8), .unset, .unset, .unset, .unset, .unset, .unset, .unset, .unset, .unset, .unset, .unset] [(.int p1)])) rfl (hb hby at_39) _ k) ?_
      show WP p e below _ (T6.setTop (mkF m 41 #[.val (.int p1), .val (.int p2), .val (.int p3), .val (.int p4), .val (.int (0 : Int32)), .val (.int z5_S0), .val (.int vi7), .val (.int vi8), .unset, .unset, .unset, .unset, .unset, .unset, .unset, .unset, .unset, .unset, .unset] [(.int (65535 : Int32)), (.int p1)]))
      refine own_go (fun t_ k => XS.iand X6.here hx rfl (hb hby at_41) rfl k) ?_
      show WP p e below _ (T6.setTop (mkF m 42 #[.val (.int p1), .val (.int p2), .val (.int p3), .val (.int p4), .val (.int (0 : Int32)), .val (.int z5_S0), .val (.int vi7), .val (.int vi8), .unset, .unset, .unset, .unset, .unset, .unset, .unset, .unset, .unset, .unset, .unset] [(.int (p1 &&& (65535 : Int32)))]))
      refine own_go (fun t_ k => X6.ldcInt hx hown (mvT hZ (hw _ (List.mem_of_getElem? (i := 5) rfl))) (g := (mkF m 42 #[.val (.int p1), .val (.int p2), .val (.int p3), .val (.int p4), .val (.int (0 : Int32)), .val (.int z5_S0), .val (.int vi7), .val (.int vi8), .unset, .unset, .unset, .unset, .unset, .unset, .unset, .unset, .unset, .unset, .unset] [(.int (p1 &&& (65535 : Int32)))])) rfl (hb hby at_42) _ k) ?_
      show WP p e below _ (T6.setTop (mkF m 44 #[.val (.int p1), .val (.int p2), .val (.int p3), .val (.int p4), .val (.int (0 : Int32)), .val (.int z5_S0), .val (.int vi7), .val (.int vi8), .unset, .unset, .unset, .unset, .unset, .unset, .unset, .unset, .unset, .unset, .unset] [(.int (65536 : Int32)), (.int (p1 &&& (65535 : Int32)))]))
      refine own_go (fun t_ k => XS.iload X6.here hx rfl (hb hby at_44) rfl k) ?_
      show WP p e below _ (T6.setTop (mkF m 46 #[.val (.int p1), .val (.int p2), .val (.int p3), .val (.int p4), .val (.int (0 : Int32)), .val (.int z5_S0), .val (.int vi7), .val (.int vi8), .unset, .unset, .unset, .unset, .unset, .unset, .unset, .unset, .unset, .unset, .unset] [(.int vi7), (.int (65536 : Int32)), (.int (p1 &&& (65535 : Int32)))]))
      refine own_go (fun t_ k => XS.isub X6.here hx rfl (hb hby at_46) rfl k) ?_
      show WP p e below _ (T6.setTop (mkF m 47 #[.val (.int p1), .val (.int p2), .val (.int p3), .val (.int p4), .val (.int (0 : Int32)), .val (.int z5_S0), .val (.int vi7), .val (.int vi8), .unset, .unset, .unset, .unset, .unset, .unset, .unset, .unset, .unset, .unset, .unset] [(.int ((65536 : Int32) - vi7)), (.int (p1 &&& (65535 : Int32)))]))
      obtain ⟨_, _, ⟨T9, L9, k9, n9⟩, -, X9, ⟨Lc9, hQ9, l9, y9, z9⟩, st9⟩ := Jvm.LawKit.callS X6 hx (y := (⟨"java/lang/Math", "min", "(II)I"⟩ : MethodName)) hown (mvT hZ (hw _ (List.mem_of_getElem? (i := 0) rfl))) (mvT hZ (hw _ (List.mem_of_getElem? (i := 1) rfl))) (mvT hZ (hw _ (List.mem_of_getElem? (i := 2) rfl))) (mvT hZ (hw _ (List.mem_of_getElem? (i := 3) rfl))) (by decide) (backOf (W := 0) (rm1 l Z a0 hw [] (p1 &&& (65535 : Int32)) ((65536 : Int32) - vi7) h0 n0) hZ (hw _ (List.mem_of_getElem? (i := 3) rfl)) (hw _ (List.mem_of_getElem? (i := 2) rfl)) (by decide) (by decide)) (g := (mkF m 47 #[.val (.int p1), .val (.int p2), .val (.int p3), .val (.int p4), .val (.int (0 : Int32)), .val (.int z5_S0), .val (.int vi7), .val (.int vi8), .unset, .unset, .unset, .unset, .unset, .unset, .unset, .unset, .unset, .unset, .unset] [(.int ((65536 : Int32) - vi7)), (.int (p1 &&& (65535 : Int32)))])) rfl (by rw [hml]; rfl) (argsL := [(.int (p1 &&& (65535 : Int32))), (.int ((65536 : Int32) - vi7))]) (rest := []) (lenOf pd_1 rfl) rfl (by show 2 * 0 + _ ≤ _; exact Nat.le_of_eq rfl) (hb hby at_47) (fun _ _ => ⟨rfl, e6, (by decide : 0 + 0 ≤ _), (by decide : 0 + 0 ≤ _)⟩)
      dsimp only [Pt.U, Pt.locs, Pt.cells, Pt.slots] at X9 l9 y9 z9 st9 hQ9
      subst l9 y9 z9
      obtain ⟨rfl, N9q, e9⟩ := hQ9
      have N9 := Fr.app N6 N9q
      replace X9 : Stand p l e room_1 s m _ below meth c T9 _ 0 0 := X9
      refine own_go st9 ?_
      show WP p e below _ (T9.setTop (mkF m 50 #[.val (.int p1), .val (.int p2), .val (.int p3), .val (.int p4), .val (.int (0 : Int32)), .val (.int z5_S0), .val (.int vi7), .val (.int vi8), .unset, .unset, .unset, .unset, .unset, .unset, .unset, .unset, .unset, .unset, .unset] [(.int (f1 (p1 &&& (65535 : Int32)) ((65536 : Int32) - vi7)))]))
      generalize he10 : (f1 (p1 &&& (65535 : Int32)) ((65536 : Int32) - vi7)) = vi10
      show WP p e below _ (T9.setTop (mkF m 50 #[.val (.int p1), .val (.int p2), .val (.int p3), .val (.int p4), .val (.int (0 : Int32)), .val (.int z5_S0), .val (.int vi7), .val (.int vi8), .unset, .unset, .unset, .unset, .unset, .unset, .unset, .unset, .unset, .unset, .unset] [(.int vi10)]))
      refine own_go (fun t_ k => XS.istore X9.here hx rfl (hb hby at_50) rfl (l' := #[.val (.int p1), .val (.int p2), .val (.int p3), .val (.int p4), .val (.int (0 : Int32)), .val (.int z5_S0), .val (.int vi7), .val (.int vi8), .val (.int vi10), .unset, .unset, .unset, .unset, .unset, .unset, .unset, .unset, .unset, .unset]) rfl k) ?_
      show WP p e below _ (T9.setTop (mkF m 52 #[.val (.int p1), .val (.int p2), .val (.int p3), .val (.int p4), .val (.int (0 : Int32)), .val (.int z5_S0), .val (.int vi7), .val (.int vi8), .val (.int vi10), .unset, .unset, .unset, .unset, .unset, .unset, .unset, .unset, .unset, .unset] []))
      refine own_go (fun t_ k => XS.iload X9.here hx rfl (hb hby at_52) rfl k) ?_
      show WP p e below _ (T9.setTop (mkF m 54 #[.val (.int p1), .val (.int p2), .val (.int p3), .val (.int p4), .val (.int (0 : Int32)), .val (.int z5_S0), .val (.int vi7), .val (.int vi8), .val (.int vi10), .unset, .unset, .unset, .unset, .unset, .unset, .unset, .unset, .unset, .unset] [(.int vi10)]))
      refine own_go (fun t_ k => XS.iload X9.here hx rfl (hb hby at_54) rfl k) ?_
      show WP p e below _ (T9.setTop (mkF m 56 #[.val (.int p1), .val (.int p2), .val (.int p3), .val (.int p4), .val (.int (0 : Int32)), .val (.int z5_S0), .val (.int vi7), .val (.int vi8), .val (.int vi10), .unset, .unset, .unset, .unset, .unset, .unset, .unset, .unset, .unset, .unset] [(.int vi7), (.int vi10)]))
      refine own_go (fun t_ k => XS.iadd X9.here hx rfl (hb hby at_56) rfl k) ?_
      show WP p e below _ (T9.setTop (mkF m 57 #[.val (.int p1), .val (.int p2), .val (.int p3), .val (.int p4), .val (.int (0 : Int32)), .val (.int z5_S0), .val (.int vi7), .val (.int vi8), .val (.int vi10), .unset, .unset, .unset, .unset, .unset, .unset, .unset, .unset, .unset, .unset] [(.int (vi10 + vi7))]))
      refine own_go (fun t_ k => XS.iconst X9.here hx rfl (hb hby at_57) k) ?_
      show WP p e below _ (T9.setTop (mkF m 58 #[.val (.int p1), .val (.int p2), .val (.int p3), .val (.int p4), .val (.int (0 : Int32)), .val (.int z5_S0), .val (.int vi7), .val (.int vi8), .val (.int vi10), .unset, .unset, .unset, .unset, .unset, .unset, .unset, .unset, .unset, .unset] [(.int (1 : Int32)), (.int (vi10 + vi7))]))
      refine own_go (fun t_ k => XS.isub X9.here hx rfl (hb hby at_58) rfl k) ?_
      show WP p e below _ (T9.setTop (mkF m 59 #[.val (.int p1), .val (.int p2), .val (.int p3), .val (.int p4), .val (.int (0 : Int32)), .val (.int z5_S0), .val (.int vi7), .val (.int vi8), .val (.int vi10), .unset, .unset, .unset, .unset, .unset, .unset, .unset, .unset, .unset, .unset] [(.int ((vi10 + vi7) - (1 : Int32)))]))
      refine own_go (fun t_ k => XS.istore X9.here hx rfl (hb hby at_59) rfl (l' := #[.val (.int p1), .val (.int p2), .val (.int p3), .val (.int p4), .val (.int (0 : Int32)), .val (.int z5_S0), .val (.int vi7), .val (.int vi8), .val (.int vi10), .val (.int ((vi10 + vi7) - (1 : Int32))), .unset, .unset, .unset, .unset, .unset, .unset, .unset, .unset, .unset]) rfl k) ?_
      show WP p e below _ (T9.setTop (mkF m 61 #[.val (.int p1), .val (.int p2), .val (.int p3), .val (.int p4), .val (.int (0 : Int32)), .val (.int z5_S0), .val (.int vi7), .val (.int vi8), .val (.int vi10), .val (.int ((vi10 + vi7) - (1 : Int32))), .unset, .unset, .unset, .unset, .unset, .unset, .unset, .unset, .unset] []))
      generalize he11 : ((vi10 + vi7) - (1 : Int32)) = vi11
      show WP p e below _ (T9.setTop (mkF m 61 #[.val (.int p1), .val (.int p2), .val (.int p3), .val (.int p4), .val (.int (0 : Int32)), .val (.int z5_S0), .val (.int vi7), .val (.int vi8), .val (.int vi10), .val (.int vi11), .unset, .unset, .unset, .unset, .unset, .unset, .unset, .unset, .unset] []))
      refine own_go (fun t_ k => XS.iload X9.here hx rfl (hb hby at_61) rfl k) ?_
      show WP p e below _ (T9.setTop (mkF m 63 #[.val (.int p1), .val (.int p2), .val (.int p3), .val (.int p4), .val (.int (0 : Int32)), .val (.int z5_S0), .val (.int vi7), .val (.int vi8), .val (.int vi10), .val (.int vi11), .unset, .unset, .unset, .unset, .unset, .unset, .unset, .unset, .unset] [(.int z5_S0)]))
      have J14 : ∀ (T14 : State) (ls14 : List Loc) (X14 : Stand p l e room_1 s m #[(.int p1), (.int p2), (.int p3), (.int p4)] below meth c T14 ls14 0 0) (N14 : Fr n0 ls14) (e14 : T14.heap = h0) (z13_S0 : Int32) (hz13_S0 : z13_S0 = (if z5_S0 = (0 : Int32) then (1 : Int32) else (0 : Int32))), WP p e below (GG (Q0 n0) s room_1.cells room_1.slots) (T14.setTop (mkF m 71 #[.val (.int p1), .val (.int p2), .val (.int p3), .val (.int p4), .val (.int (0 : Int32)), .val (.int z5_S0), .val (.int vi7), .val (.int vi8), .val (.int vi10), .val (.int vi11), .unset, .unset, .unset, .unset, .unset, .unset, .unset, .unset, .unset] [(.int z13_S0)])) := by
        intro T14 ls14 X14 N14 e14 z13_S0 hz13_S0
        show WP p e below _ (T14.setTop (mkF m 71 #[.val (.int p1), .val (.int p2), .val (.int p3), .val (.int p4), .val (.int (0 : Int32)), .val (.int z5_S0), .val (.int vi7), .val (.int vi8), .val (.int vi10), .val (.int vi11), .unset, .unset, .unset, .unset, .unset, .unset, .unset, .unset, .unset] [(.int z13_S0)]))
        refine own_go (fun t_ k => XS.istore X14.here hx rfl (hb hby at_71) rfl (l' := #[.val (.int p1), .val (.int p2), .val (.int p3), .val (.int p4), .val (.int (0 : Int32)), .val (.int z5_S0), .val (.int vi7), .val (.int vi8), .val (.int vi10), .val (.int vi11), .val (.int z13_S0), .unset, .unset, .unset, .unset, .unset, .unset, .unset, .unset]) rfl k) ?_
        show WP p e below _ (T14.setTop (mkF m 73 #[.val (.int p1), .val (.int p2), .val (.int p3), .val (.int p4), .val (.int (0 : Int32)), .val (.int z5_S0), .val (.int vi7), .val (.int vi8), .val (.int vi10), .val (.int vi11), .val (.int z13_S0), .unset, .unset, .unset, .unset, .unset, .unset, .unset, .unset] []))
        refine own_go (fun t_ k => X14.ldcInt hx hown (mvT hZ (hw _ (List.mem_of_getElem? (i := 5) rfl))) (g := (mkF m 73 #[.val (.int p1), .val (.int p2), .val (.int p3), .val (.int p4), .val (.int (0 : Int32)), .val (.int z5_S0), .val (.int vi7), .val (.int vi8), .val (.int vi10), .val (.int vi11), .val (.int z13_S0), .unset, .unset, .unset, .unset, .unset, .unset, .unset, .unset] [])) rfl (hb hby at_73) _ k) ?_
        show WP p e below _ (T14.setTop (mkF m 75 #[.val (.int p1), .val (.int p2), .val (.int p3), .val (.int p4), .val (.int (0 : Int32)), .val (.int z5_S0), .val (.int vi7), .val (.int vi8), .val (.int vi10), .val (.int vi11), .val (.int z13_S0), .unset, .unset, .unset, .unset, .unset, .unset, .unset, .unset] [(.int (65536 : Int32))]))
        refine own_go (fun t_ k => XS.iload X14.here hx rfl (hb hby at_75) rfl k) ?_
        show WP p e below _ (T14.setTop (mkF m 77 #[.val (.int p1), .val (.int p2), .val (.int p3), .val (.int p4), .val (.int (0 : Int32)), .val (.int z5_S0), .val (.int vi7), .val (.int vi8), .val (.int vi10), .val (.int vi11), .val (.int z13_S0), .unset, .unset, .unset, .unset, .unset, .unset, .unset, .unset] [(.int vi8), (.int (65536 : Int32))]))
        refine own_go (fun t_ k => XS.isub X14.here hx rfl (hb hby at_77) rfl k) ?_
        show WP p e below _ (T14.setTop (mkF m 78 #[.val (.int p1), .val (.int p2), .val (.int p3), .val (.int p4), .val (.int (0 : Int32)), .val (.int z5_S0), .val (.int vi7), .val (.int vi8), .val (.int vi10), .val (.int vi11), .val (.int z13_S0), .unset, .unset, .unset, .unset, .unset, .unset, .unset, .unset] [(.int ((65536 : Int32) - vi8))]))
        refine own_go (fun t_ k => XS.iload X14.here hx rfl (hb hby at_78) rfl k) ?_
        show WP p e below _ (T14.setTop (mkF m 80 #[.val (.int p1), .val (.int p2), .val (.int p3), .val (.int p4), .val (.int (0 : Int32)), .val (.int z5_S0), .val (.int vi7), .val (.int vi8), .val (.int vi10), .val (.int vi11), .val (.int z13_S0), .unset, .unset, .unset, .unset, .unset, .unset, .unset, .unset] [(.int vi11), (.int ((65536 : Int32) - vi8))]))
        refine own_go (fun t_ k => XS.isub X14.here hx rfl (hb hby at_80) rfl k) ?_
        show WP p e below _ (T14.setTop (mkF m 81 #[.val (.int p1), .val (.int p2), .val (.int p3), .val (.int p4), .val (.int (0 : Int32)), .val (.int z5_S0), .val (.int vi7), .val (.int vi8), .val (.int vi10), .val (.int vi11), .val (.int z13_S0), .unset, .unset, .unset, .unset, .unset, .unset, .unset, .unset] [(.int (((65536 : Int32) - vi8) - vi11))]))
        refine own_go (fun t_ k => XS.iload X14.here hx rfl (hb hby at_81) rfl k) ?_
        show WP p e below _ (T14.setTop (mkF m 83 #[.val (.int p1), .val (.int p2), .val (.int p3), .val (.int p4), .val (.int (0 : Int32)), .val (.int z5_S0), .val (.int vi7), .val (.int vi8), .val (.int vi10), .val (.int vi11), .val (.int z13_S0), .unset, .unset, .unset, .unset, .unset, .unset, .unset, .unset] [(.int z13_S0), (.int (((65536 : Int32) - vi8) - vi11))]))
        refine own_go (fun t_ k => XS.isub X14.here hx rfl (hb hby at_83) rfl k) ?_
        show WP p e below _ (T14.setTop (mkF m 84 #[.val (.int p1), .val (.int p2), .val (.int p3), .val (.int p4), .val (.int (0 : Int32)), .val (.int z5_S0), .val (.int vi7), .val (.int vi8), .val (.int vi10), .val (.int vi11), .val (.int z13_S0), .unset, .unset, .unset, .unset, .unset, .unset, .unset, .unset] [(.int ((((65536 : Int32) - vi8) - vi11) - z13_S0))]))
        refine own_go (fun t_ k => XS.istore X14.here hx rfl (hb hby at_84) rfl (l' := #[.val (.int p1), .val (.int p2), .val (.int p3), .val (.int p4), .val (.int (0 : Int32)), .val (.int z5_S0), .val (.int vi7), .val (.int vi8), .val (.int vi10), .val (.int vi11), .val (.int z13_S0), .val (.int ((((65536 : Int32) - vi8) - vi11) - z13_S0)), .unset, .unset, .unset, .unset, .unset, .unset, .unset]) rfl k) ?_
        show WP p e below _ (T14.setTop (mkF m 86 #[.val (.int p1), .val (.int p2), .val (.int p3), .val (.int p4), .val (.int (0 : Int32)), .val (.int z5_S0), .val (.int vi7), .val (.int vi8), .val (.int vi10), .val (.int vi11), .val (.int z13_S0), .val (.int ((((65536 : Int32) - vi8) - vi11) - z13_S0)), .unset, .unset, .unset, .unset, .unset, .unset, .unset] []))
        generalize he15 : ((((65536 : Int32) - vi8) - vi11) - z13_S0) = vi15
        show WP p e below _ (T14.setTop (mkF m 86 #[.val (.int p1), .val (.int p2), .val (.int p3), .val (.int p4), .val (.int (0 : Int32)), .val (.int z5_S0), .val (.int vi7), .val (.int vi8), .val (.int vi10), .val (.int vi11), .val (.int z13_S0), .val (.int vi15), .unset, .unset, .unset, .unset, .unset, .unset, .unset] []))
        refine own_go (fun t_ k => XS.iconst X14.here hx rfl (hb hby at_86) k) ?_
        show WP p e below _ (T14.setTop (mkF m 87 #[.val (.int p1), .val (.int p2), .val (.int p3), .val (.int p4), .val (.int (0 : Int32)), .val (.int z5_S0), .val (.int vi7), .val (.int vi8), .val (.int vi10), .val (.int vi11), .val (.int z13_S0), .val (.int vi15), .unset, .unset, .unset, .unset, .unset, .unset, .unset] [(.int (0 : Int32))]))
        refine own_go (fun t_ k => XS.istore X14.here hx rfl (hb hby at_87) rfl (l' := #[.val (.int p1), .val (.int p2), .val (.int p3), .val (.int p4), .val (.int (0 : Int32)), .val (.int z5_S0), .val (.int vi7), .val (.int vi8), .val (.int vi10), .val (.int vi11), .val (.int z13_S0), .val (.int vi15), .val (.int (0 : Int32)), .unset, .unset, .unset, .unset, .unset, .unset]) rfl k) ?_
        show WP p e below _ (T14.setTop (mkF m 89 #[.val (.int p1), .val (.int p2), .val (.int p3), .val (.int p4), .val (.int (0 : Int32)), .val (.int z5_S0), .val (.int vi7), .val (.int vi8), .val (.int vi10), .val (.int vi11), .val (.int z13_S0), .val (.int vi15), .val (.int (0 : Int32)), .unset, .unset, .unset, .unset, .unset, .unset] []))
        refine own_go (fun t_ k => XS.iload X14.here hx rfl (hb hby at_89) rfl k) ?_
        show WP p e below _ (T14.setTop (mkF m 91 #[.val (.int p1), .val (.int p2), .val (.int p3), .val (.int p4), .val (.int (0 : Int32)), .val (.int z5_S0), .val (.int vi7), .val (.int vi8), .val (.int vi10), .val (.int vi11), .val (.int z13_S0), .val (.int vi15), .val (.int (0 : Int32)), .unset, .unset, .unset, .unset, .unset, .unset] [(.int vi15)]))
        have J18 : ∀ (T18 : State) (ls18 : List Loc) (X18 : Stand p l e room_1 s m #[(.int p1), (.int p2), (.int p3), (.int p4)] below meth c T18 ls18 0 0) (N18 : Fr n0 ls18) (e18 : T18.heap = h0) (z17_L12 : Int32) (hz17_L12 : z17_L12 = (if (0 : Int32) < vi15 then (((vi11 + (1 : Int32)) + z13_S0) + ((p2 &&& (2147483647 : Int32)) % vi15)) else (0 : Int32))), WP p e below (GG (Q0 n0) s room_1.cells room_1.slots) (T18.setTop (mkF m 122 #[.val (.int p1), .val (.int p2), .val (.int p3), .val (.int p4), .val (.int (0 : Int32)), .val (.int z5_S0), .val (.int vi7), .val (.int vi8), .val (.int vi10), .val (.int vi11), .val (.int z13_S0), .val (.int vi15), .val (.int z17_L12), .unset, .unset, .unset, .unset, .unset, .unset] [])) := by
          intro T18 ls18 X18 N18 e18 z17_L12 hz17_L12
          show WP p e below _ (T18.setTop (mkF m 122 #[.val (.int p1), .val (.int p2), .val (.int p3), .val (.int p4), .val (.int (0 : Int32)), .val (.int z5_S0), .val (.int vi7), .val (.int vi8), .val (.int vi10), .val (.int vi11), .val (.int z13_S0), .val (.int vi15), .val (.int z17_L12), .unset, .unset, .unset, .unset, .unset, .unset] []))
          refine own_go (fun t_ k => XS.iload X18.here hx rfl (hb hby at_122) rfl k) ?_
          show WP p e below _ (T18.setTop (mkF m 124 #[.val (.int p1), .val (.int p2), .val (.int p3), .val (.int p4), .val (.int (0 : Int32)), .val (.int z5_S0), .val (.int vi7), .val (.int vi8), .val (.int vi10), .val (.int vi11), .val (.int z13_S0), .val (.int vi15), .val (.int z17_L12), .unset, .unset, .unset, .unset, .unset, .unset] [(.int z17_L12)]))
          refine own_go (fun t_ k => XS.iload X18.here hx rfl (hb hby at_124) rfl k) ?_
          show WP p e below _ (T18.setTop (mkF m 126 #[.val (.int p1), .val (.int p2), .val (.int p3), .val (.int p4), .val (.int (0 : Int32)), .val (.int z5_S0), .val (.int vi7), .val (.int vi8), .val (.int vi10), .val (.int vi11), .val (.int z13_S0), .val (.int vi15), .val (.int z17_L12), .unset, .unset, .unset, .unset, .unset, .unset] [(.int vi8), (.int z17_L12)]))
          refine own_go (fun t_ k => XS.iadd X18.here hx rfl (hb hby at_126) rfl k) ?_
          show WP p e below _ (T18.setTop (mkF m 127 #[.val (.int p1), .val (.int p2), .val (.int p3), .val (.int p4), .val (.int (0 : Int32)), .val (.int z5_S0), .val (.int vi7), .val (.int vi8), .val (.int vi10), .val (.int vi11), .val (.int z13_S0), .val (.int vi15), .val (.int z17_L12), .unset, .unset, .unset, .unset, .unset, .unset] [(.int (z17_L12 + vi8))]))
          refine own_go (fun t_ k => XS.iconst X18.here hx rfl (hb hby at_127) k) ?_
          show WP p e below _ (T18.setTop (mkF m 128 #[.val (.int p1), .val (.int p2), .val (.int p3), .val (.int p4), .val (.int (0 : Int32)), .val (.int z5_S0), .val (.int vi7), .val (.int vi8), .val (.int vi10), .val (.int vi11), .val (.int z13_S0), .val (.int vi15), .val (.int z17_L12), .unset, .unset, .unset, .unset, .unset, .unset] [(.int (1 : Int32)), (.int (z17_L12 + vi8))]))
          refine own_go (fun t_ k => XS.isub X18.here hx rfl (hb hby at_128) rfl k) ?_
          show WP p e below _ (T18.setTop (mkF m 129 #[.val (.int p1), .val (.int p2), .val (.int p3), .val (.int p4), .val (.int (0 : Int32)), .val (.int z5_S0), .val (.int vi7), .val (.int vi8), .val (.int vi10), .val (.int vi11), .val (.int z13_S0), .val (.int vi15), .val (.int z17_L12), .unset, .unset, .unset, .unset, .unset, .unset] [(.int ((z17_L12 + vi8) - (1 : Int32)))]))
          refine own_go (fun t_ k => XS.istore X18.here hx rfl (hb hby at_129) rfl (l' := #[.val (.int p1), .val (.int p2), .val (.int p3), .val (.int p4), .val (.int (0 : Int32)), .val (.int z5_S0), .val (.int vi7), .val (.int vi8), .val (.int vi10), .val (.int vi11), .val (.int z13_S0), .val (.int vi15), .val (.int z17_L12), .val (.int ((z17_L12 + vi8) - (1 : Int32))), .unset, .unset, .unset, .unset, .unset]) rfl k) ?_
          show WP p e below _ (T18.setTop (mkF m 131 #[.val (.int p1), .val (.int p2), .val (.int p3), .val (.int p4), .val (.int (0 : Int32)), .val (.int z5_S0), .val (.int vi7), .val (.int vi8), .val (.int vi10), .val (.int vi11), .val (.int z13_S0), .val (.int vi15), .val (.int z17_L12), .val (.int ((z17_L12 + vi8) - (1 : Int32))), .unset, .unset, .unset, .unset, .unset] []))
          generalize he19 : ((z17_L12 + vi8) - (1 : Int32)) = vi19
          show WP p e below _ (T18.setTop (mkF m 131 #[.val (.int p1), .val (.int p2), .val (.int p3), .val (.int p4), .val (.int (0 : Int32)), .val (.int z5_S0), .val (.int vi7), .val (.int vi8), .val (.int vi10), .val (.int vi11), .val (.int z13_S0), .val (.int vi15), .val (.int z17_L12), .val (.int vi19), .unset, .unset, .unset, .unset, .unset] []))
          refine own_go (fun t_ k => XS.iconst X18.here hx rfl (hb hby at_131) k) ?_
          show WP p e below _ (T18.setTop (mkF m 132 #[.val (.int p1), .val (.int p2), .val (.int p3), .val (.int p4), .val (.int (0 : Int32)), .val (.int z5_S0), .val (.int vi7), .val (.int vi8), .val (.int vi10), .val (.int vi11), .val (.int z13_S0), .val (.int vi15), .val (.int z17_L12), .val (.int vi19), .unset, .unset, .unset, .unset, .unset] [(.int (3 : Int32))]))
          obtain ⟨T20, h20, k20, X20, e20, E20, A20, st20⟩ := newP X18 hx hZ (hw _ (List.mem_of_getElem? (i := 7) rfl)) e18 (g := (mkF m 132 #[.val (.int p1), .val (.int p2), .val (.int p3), .val (.int p4), .val (.int (0 : Int32)), .val (.int z5_S0), .val (.int vi7), .val (.int vi8), .val (.int vi10), .val (.int vi11), .val (.int z13_S0), .val (.int vi15), .val (.int z17_L12), .val (.int vi19), .unset, .unset, .unset, .unset, .unset] [(.int (3 : Int32))])) rfl (hb hby at_132) rfl (by decide) (cap := 3) (by decide) (by decide) (by decide) (by decide)
          obtain ⟨b20, g20⟩ : ∃ z, z = Array.size h0 := ⟨_, rfl⟩
          rw [← g20] at A20 st20
          refine own_go st20 ?_
          have g_b20 : n0 ≤ b20 := Nat.le_trans (Nat.le_trans Z0 (Keep.refl h0 []).1) (Nat.le_of_eq g20.symm)
          have sz_b20 : h0.size ≤ b20 := Nat.le_trans (Keep.refl h0 []).1 (Nat.le_of_eq g20.symm)
          have K20 : Keep h0 h20 [] := (Keep.refl h0 []).ext E20
          have V20 : Arv Z h20 b20 k20 .char (3 : Int32) [(.int (0 : Int32)), (.int (0 : Int32)), (.int (0 : Int32))] (.int (0 : Int32)) := (Arv.new A20 (by decide)).pad (pad_rep [] (.int (0 : Int32)) 3)
          show WP p e below _ (T20.setTop (mkF m 134 #[.val (.int p1), .val (.int p2), .val (.int p3), .val (.int p4), .val (.int (0 : Int32)), .val (.int z5_S0), .val (.int vi7), .val (.int vi8), .val (.int vi10), .val (.int vi11), .val (.int z13_S0), .val (.int vi15), .val (.int z17_L12), .val (.int vi19), .unset, .unset, .unset, .unset, .unset] [(.ref b20)]))
          refine own_go (fun t_ k => XS.astore X20.here hx rfl (hb hby at_134) rfl rfl (l' := #[.val (.int p1), .val (.int p2), .val (.int p3), .val (.int p4), .val (.int (0 : Int32)), .val (.int z5_S0), .val (.int vi7), .val (.int vi8), .val (.int vi10), .val (.int vi11), .val (.int z13_S0), .val (.int vi15), .val (.int z17_L12), .val (.int vi19), .val (.ref b20), .unset, .unset, .unset, .unset]) rfl k) ?_
          show WP p e below _ (T20.setTop (mkF m 136 #[.val (.int p1), .val (.int p2), .val (.int p3), .val (.int p4), .val (.int (0 : Int32)), .val (.int z5_S0), .val (.int vi7), .val (.int vi8), .val (.int vi10), .val (.int vi11), .val (.int z13_S0), .val (.int vi15), .val (.int z17_L12), .val (.int vi19), .val (.ref b20), .unset, .unset, .unset, .unset] []))
          refine own_go (fun t_ k => XS.iconst X20.here hx rfl (hb hby at_136) k) ?_
          show WP p e below _ (T20.setTop (mkF m 137 #[.val (.int p1), .val (.int p2), .val (.int p3), .val (.int p4), .val (.int (0 : Int32)), .val (.int z5_S0), .val (.int vi7), .val (.int vi8), .val (.int vi10), .val (.int vi11), .val (.int z13_S0), .val (.int vi15), .val (.int z17_L12), .val (.int vi19), .val (.ref b20), .unset, .unset, .unset, .unset] [(.int (3 : Int32))]))
          obtain ⟨T21, h21, k21, X21, e21, E21, A21, st21⟩ := newP X20 hx hZ (hw _ (List.mem_of_getElem? (i := 7) rfl)) e20 (g := (mkF m 137 #[.val (.int p1), .val (.int p2), .val (.int p3), .val (.int p4), .val (.int (0 : Int32)), .val (.int z5_S0), .val (.int vi7), .val (.int vi8), .val (.int vi10), .val (.int vi11), .val (.int z13_S0), .val (.int vi15), .val (.int z17_L12), .val (.int vi19), .val (.ref b20), .unset, .unset, .unset, .unset] [(.int (3 : Int32))])) rfl (hb hby at_137) rfl (by decide) (cap := 3) (by decide) (by decide) (by decide) (by decide)
          obtain ⟨b21, g21⟩ : ∃ z, z = Array.size h20 := ⟨_, rfl⟩
          rw [← g21] at A21 st21
          refine own_go st21 ?_
          have g_b21 : n0 ≤ b21 := Nat.le_trans (Nat.le_trans Z0 K20.1) (Nat.le_of_eq g21.symm)
          have sz_b21 : h0.size ≤ b21 := Nat.le_trans K20.1 (Nat.le_of_eq g21.symm)
          have ne_b20_b21 : b20 ≠ b21 := Nat.ne_of_lt (Nat.lt_of_lt_of_le V20.lt (Nat.le_of_eq g21.symm))
          have K21 : Keep h0 h21 [] := K20.ext E21
          have V21 : Arv Z h21 b21 k21 .char (3 : Int32) [(.int (0 : Int32)), (.int (0 : Int32)), (.int (0 : Int32))] (.int (0 : Int32)) := (Arv.new A21 (by decide)).pad (pad_rep [] (.int (0 : Int32)) 3)
          show WP p e below _ (T21.setTop (mkF m 139 #[.val (.int p1), .val (.int p2), .val (.int p3), .val (.int p4), .val (.int (0 : Int32)), .val (.int z5_S0), .val (.int vi7), .val (.int vi8), .val (.int vi10), .val (.int vi11), .val (.int z13_S0), .val (.int vi15), .val (.int z17_L12), .val (.int vi19), .val (.ref b20), .unset, .unset, .unset, .unset] [(.ref b21)]))
          refine own_go (fun t_ k => XS.astore X21.here hx rfl (hb hby at_139) rfl rfl (l' := #[.val (.int p1), .val (.int p2), .val (.int p3), .val (.int p4), .val (.int (0 : Int32)), .val (.int z5_S0), .val (.int vi7), .val (.int vi8), .val (.int vi10), .val (.int vi11), .val (.int z13_S0), .val (.int vi15), .val (.int z17_L12), .val (.int vi19), .val (.ref b20), .val (.ref b21), .unset, .unset, .unset]) rfl k) ?_
          show WP p e below _ (T21.setTop (mkF m 141 #[.val (.int p1), .val (.int p2), .val (.int p3), .val (.int p4), .val (.int (0 : Int32)), .val (.int z5_S0), .val (.int vi7), .val (.int vi8), .val (.int vi10), .val (.int vi11), .val (.int z13_S0), .val (.int vi15), .val (.int z17_L12), .val (.int vi19), .val (.ref b20), .val (.ref b21), .unset, .unset, .unset] []))
          refine own_go (fun t_ k => XS.aload X21.here hx rfl (hb hby at_141) rfl rfl k) ?_
          show WP p e below _ (T21.setTop (mkF m 143 #[.val (.int p1), .val (.int p2), .val (.int p3), .val (.int p4), .val (.int (0 : Int32)), .val (.int z5_S0), .val (.int vi7), .val (.int vi8), .val (.int vi10), .val (.int vi11), .val (.int z13_S0), .val (.int vi15), .val (.int z17_L12), .val (.int vi19), .val (.ref b20), .val (.ref b21), .unset, .unset, .unset] [(.ref b20)]))
          refine own_go (fun t_ k => XS.iconst X21.here hx rfl (hb hby at_143) k) ?_
          show WP p e below _ (T21.setTop (mkF m 144 #[.val (.int p1), .val (.int p2), .val (.int p3), .val (.int p4), .val (.int (0 : Int32)), .val (.int z5_S0), .val (.int vi7), .val (.int vi8), .val (.int vi10), .val (.int vi11), .val (.int z13_S0), .val (.int vi15), .val (.int z17_L12), .val (.int vi19), .val (.ref b20), .val (.ref b21), .unset, .unset, .unset] [(.int (0 : Int32)), (.ref b20)]))
          refine own_go (fun t_ k => XS.iload X21.here hx rfl (hb hby at_144) rfl k) ?_
          show WP p e below _ (T21.setTop (mkF m 146 #[.val (.int p1), .val (.int p2), .val (.int p3), .val (.int p4), .val (.int (0 : Int32)), .val (.int z5_S0), .val (.int vi7), .val (.int vi8), .val (.int vi10), .val (.int vi11), .val (.int z13_S0), .val (.int vi15), .val (.int z17_L12), .val (.int vi19), .val (.ref b20), .val (.ref b21), .unset, .unset, .unset] [(.int vi10), (.int (0 : Int32)), (.ref b20)]))
          refine own_go (fun t_ k => XS.i2c X21.here hx rfl (hb hby at_146) rfl k) ?_
          show WP p e below _ (T21.setTop (mkF m 147 #[.val (.int p1), .val (.int p2), .val (.int p3), .val (.int p4), .val (.int (0 : Int32)), .val (.int z5_S0), .val (.int vi7), .val (.int vi8), .val (.int vi10), .val (.int vi11), .val (.int z13_S0), .val (.int vi15), .val (.int z17_L12), .val (.int vi19), .val (.ref b20), .val (.ref b21), .unset, .unset, .unset] [(.int (vi10.toUInt32.toUInt16.toUInt32.toInt32)), (.int (0 : Int32)), (.ref b20)]))
          obtain ⟨cl22, Ar22, q22, S22, M22, H22, G22⟩ := id ((V20.ext E21))
          have hin22 : ¬ ((0 : Int32) < 0 ∨ cl22.slots.size ≤ ((0 : Int32)).toNatClampNeg) := inb_of S22 (⟨by decide, by decide⟩)
          obtain ⟨T23, h23, X23, e23, W23, st23⟩ := stC X21 hx hZ e21 Ar22 (j := (0 : Int32)) hin22 (g := (mkF m 147 #[.val (.int p1), .val (.int p2), .val (.int p3), .val (.int p4), .val (.int (0 : Int32)), .val (.int z5_S0), .val (.int vi7), .val (.int vi8), .val (.int vi10), .val (.int vi11), .val (.int z13_S0), .val (.int vi15), .val (.int z17_L12), .val (.int vi19), .val (.ref b20), .val (.ref b21), .unset, .unset, .unset] [(.int (vi10.toUInt32.toUInt16.toUInt32.toInt32)), (.int (0 : Int32)), (.ref b20)])) rfl rfl (hb hby at_147)
          refine own_go st23 ?_
          have V23 : Arv Z h23 b20 k20 .char (3 : Int32) [(.int ((vi10.toUInt32.toUInt16.toUInt32.toInt32).toUInt32.toUInt16.toUInt32.toInt32)), (.int (0 : Int32)), (.int (0 : Int32))] (.int (0 : Int32)) := Arv.set Ar22 q22 S22 M22 H22 G22 (fits_nar_char _) W23 0 rfl (Nat.le_of_ble_eq_true rfl)
          have N23 := Fr.snoc X23 N18 g_b20
          have K23 : Keep h0 h23 [] := K21.wr W23 (Or.inr sz_b20)
          show WP p e below _ (T23.setTop (mkF m 148 #[.val (.int p1), .val (.int p2), .val (.int p3), .val (.int p4), .val (.int (0 : Int32)), .val (.int z5_S0), .val (.int vi7), .val (.int vi8), .val (.int vi10), .val (.int vi11), .val (.int z13_S0), .val (.int vi15), .val (.int z17_L12), .val (.int vi19), .val (.ref b20), .val (.ref b21), .unset, .unset, .unset] []))
          refine own_go (fun t_ k => XS.aload X23.here hx rfl (hb hby at_148) rfl rfl k) ?_
          show WP p e below _ (T23.setTop (mkF m 150 #[.val (.int p1), .val (.int p2), .val (.int p3), .val (.int p4), .val (.int (0 : Int32)), .val (.int z5_S0), .val (.int vi7), .val (.int vi8), .val (.int vi10), .val (.int vi11), .val (.int z13_S0), .val (.int vi15), .val (.int z17_L12), .val (.int vi19), .val (.ref b20), .val (.ref b21), .unset, .unset, .unset] [(.ref b21)]))
          refine own_go (fun t_ k => XS.iconst X23.here hx rfl (hb hby at_150) k) ?_
          show WP p e below _ (T23.setTop (mkF m 151 #[.val (.int p1), .val (.int p2), .val (.int p3), .val (.int p4), .val (.int (0 : Int32)), .val (.int z5_S0), .val (.int vi7), .val (.int vi8), .val (.int vi10), .val (.int vi11), .val (.int z13_S0), .val (.int vi15), .val (.int z17_L12), .val (.int vi19), .val (.ref b20), .val (.ref b21), .unset, .unset, .unset] [(.int (0 : Int32)), (.ref b21)]))
          refine own_go (fun t_ k => XS.iload X23.here hx rfl (hb hby at_151) rfl k) ?_
          show WP p e below _ (T23.setTop (mkF m 153 #[.val (.int p1), .val (.int p2), .val (.int p3), .val (.int p4), .val (.int (0 : Int32)), .val (.int z5_S0), .val (.int vi7), .val (.int vi8), .val (.int vi10), .val (.int vi11), .val (.int z13_S0), .val (.int vi15), .val (.int z17_L12), .val (.int vi19), .val (.ref b20), .val (.ref b21), .unset, .unset, .unset] [(.int vi11), (.int (0 : Int32)), (.ref b21)]))
          refine own_go (fun t_ k => XS.i2c X23.here hx rfl (hb hby at_153) rfl k) ?_
          show WP p e below _ (T23.setTop (mkF m 154 #[.val (.int p1), .val (.int p2), .val (.int p3), .val (.int p4), .val (.int (0 : Int32)), .val (.int z5_S0), .val (.int vi7), .val (.int vi8), .val (.int vi10), .val (.int vi11), .val (.int z13_S0), .val (.int vi15), .val (.int z17_L12), .val (.int vi19), .val (.ref b20), .val (.ref b21), .unset, .unset, .unset] [(.int (vi11.toUInt32.toUInt16.toUInt32.toInt32)), (.int (0 : Int32)), (.ref b21)]))
          obtain ⟨cl24, Ar24, q24, S24, M24, H24, G24⟩ := id ((V21.other W23 (Ne.symm ne_b20_b21)))
          have hin24 : ¬ ((0 : Int32) < 0 ∨ cl24.slots.size ≤ ((0 : Int32)).toNatClampNeg) := inb_of S24 (⟨by decide, by decide⟩)
          obtain ⟨T25, h25, X25, e25, W25, st25⟩ := stC X23 hx hZ e23 Ar24 (j := (0 : Int32)) hin24 (g := (mkF m 154 #[.val (.int p1), .val (.int p2), .val (.int p3), .val (.int p4), .val (.int (0 : Int32)), .val (.int z5_S0), .val (.int vi7), .val (.int vi8), .val (.int vi10), .val (.int vi11), .val (.int z13_S0), .val (.int vi15), .val (.int z17_L12), .val (.int vi19), .val (.ref b20), .val (.ref b21), .unset, .unset, .unset] [(.int (vi11.toUInt32.toUInt16.toUInt32.toInt32)), (.int (0 : Int32)), (.ref b21)])) rfl rfl (hb hby at_154)
          refine own_go st25 ?_
          have V25 : Arv Z h25 b21 k21 .char (3 : Int32) [(.int ((vi11.toUInt32.toUInt16.toUInt32.toInt32).toUInt32.toUInt16.toUInt32.toInt32)), (.int (0 : Int32)), (.int (0 : Int32))] (.int (0 : Int32)) := Arv.set Ar24 q24 S24 M24 H24 G24 (fits_nar_char _) W25 0 rfl (Nat.le_of_ble_eq_true rfl)
          have N25 := Fr.snoc X25 N23 g_b21
          have K25 : Keep h0 h25 [] := K23.wr W25 (Or.inr sz_b21)
          show WP p e below _ (T25.setTop (mkF m 155 #[.val (.int p1), .val (.int p2), .val (.int p3), .val (.int p4), .val (.int (0 : Int32)), .val (.int z5_S0), .val (.int vi7), .val (.int vi8), .val (.int vi10), .val (.int vi11), .val (.int z13_S0), .val (.int vi15), .val (.int z17_L12), .val (.int vi19), .val (.ref b20), .val (.ref b21), .unset, .unset, .unset] []))
          refine own_go (fun t_ k => XS.aload X25.here hx rfl (hb hby at_155) rfl rfl k) ?_
          show WP p e below _ (T25.setTop (mkF m 157 #[.val (.int p1), .val (.int p2), .val (.int p3), .val (.int p4), .val (.int (0 : Int32)), .val (.int z5_S0), .val (.int vi7), .val (.int vi8), .val (.int vi10), .val (.int vi11), .val (.int z13_S0), .val (.int vi15), .val (.int z17_L12), .val (.int vi19), .val (.ref b20), .val (.ref b21), .unset, .unset, .unset] [(.ref b20)]))
          refine own_go (fun t_ k => XS.iconst X25.here hx rfl (hb hby at_157) k) ?_
          show WP p e below _ (T25.setTop (mkF m 158 #[.val (.int p1), .val (.int p2), .val (.int p3), .val (.int p4), .val (.int (0 : Int32)), .val (.int z5_S0), .val (.int vi7), .val (.int vi8), .val (.int vi10), .val (.int vi11), .val (.int z13_S0), .val (.int vi15), .val (.int z17_L12), .val (.int vi19), .val (.ref b20), .val (.ref b21), .unset, .unset, .unset] [(.int (1 : Int32)), (.ref b20)]))
          refine own_go (fun t_ k => XS.iload X25.here hx rfl (hb hby at_158) rfl k) ?_
          show WP p e below _ (T25.setTop (mkF m 160 #[.val (.int p1), .val (.int p2), .val (.int p3), .val (.int p4), .val (.int (0 : Int32)), .val (.int z5_S0), .val (.int vi7), .val (.int vi8), .val (.int vi10), .val (.int vi11), .val (.int z13_S0), .val (.int vi15), .val (.int z17_L12), .val (.int vi19), .val (.ref b20), .val (.ref b21), .unset, .unset, .unset] [(.int z17_L12), (.int (1 : Int32)), (.ref b20)]))
          refine own_go (fun t_ k => XS.i2c X25.here hx rfl (hb hby at_160) rfl k) ?_
          show WP p e below _ (T25.setTop (mkF m 161 #[.val (.int p1), .val (.int p2), .val (.int p3), .val (.int p4), .val (.int (0 : Int32)), .val (.int z5_S0), .val (.int vi7), .val (.int vi8), .val (.int vi10), .val (.int vi11), .val (.int z13_S0), .val (.int vi15), .val (.int z17_L12), .val (.int vi19), .val (.ref b20), .val (.ref b21), .unset, .unset, .unset] [(.int (z17_L12.toUInt32.toUInt16.toUInt32.toInt32)), (.int (1 : Int32)), (.ref b20)]))
          obtain ⟨cl26, Ar26, q26, S26, M26, H26, G26⟩ := id ((V23.other W25 ne_b20_b21))
          have hin26 : ¬ ((1 : Int32) < 0 ∨ cl26.slots.size ≤ ((1 : Int32)).toNatClampNeg) := inb_of S26 (⟨by decide, by decide⟩)
          obtain ⟨T27, h27, X27, e27, W27, st27⟩ := stC X25 hx hZ e25 Ar26 (j := (1 : Int32)) hin26 (g := (mkF m 161 #[.val (.int p1), .val (.int p2), .val (.int p3), .val (.int p4), .val (.int (0 : Int32)), .val (.int z5_S0), .val (.int vi7), .val (.int vi8), .val (.int vi10), .val (.int vi11), .val (.int z13_S0), .val (.int vi15), .val (.int z17_L12), .val (.int vi19), .val (.ref b20), .val (.ref b21), .unset, .unset, .unset] [(.int (z17_L12.toUInt32.toUInt16.toUInt32.toInt32)), (.int (1 : Int32)), (.ref b20)])) rfl rfl (hb hby at_161)
          refine own_go st27 ?_
          have V27 : Arv Z h27 b20 k20 .char (3 : Int32) [(.int ((vi10.toUInt32.toUInt16.toUInt32.toInt32).toUInt32.toUInt16.toUInt32.toInt32)), (.int ((z17_L12.toUInt32.toUInt16.toUInt32.toInt32).toUInt32.toUInt16.toUInt32.toInt32)), (.int (0 : Int32))] (.int (0 : Int32)) := Arv.set Ar26 q26 S26 M26 H26 G26 (fits_nar_char _) W27 1 rfl (Nat.le_of_ble_eq_true rfl)
          have N27 := Fr.snoc X27 N25 g_b20
          have K27 : Keep h0 h27 [] := K25.wr W27 (Or.inr sz_b20)
          show WP p e below _ (T27.setTop (mkF m 162 #[.val (.int p1), .val (.int p2), .val (.int p3), .val (.int p4), .val (.int (0 : Int32)), .val (.int z5_S0), .val (.int vi7), .val (.int vi8), .val (.int vi10), .val (.int vi11), .val (.int z13_S0), .val (.int vi15), .val (.int z17_L12), .val (.int vi19), .val (.ref b20), .val (.ref b21), .unset, .unset, .unset] []))
          refine own_go (fun t_ k => XS.aload X27.here hx rfl (hb hby at_162) rfl rfl k) ?_
          show WP p e below _ (T27.setTop (mkF m 164 #[.val (.int p1), .val (.int p2), .val (.int p3), .val (.int p4), .val (.int (0 : Int32)), .val (.int z5_S0), .val (.int vi7), .val (.int vi8), .val (.int vi10), .val (.int vi11), .val (.int z13_S0), .val (.int vi15), .val (.int z17_L12), .val (.int vi19), .val (.ref b20), .val (.ref b21), .unset, .unset, .unset] [(.ref b21)]))
          refine own_go (fun t_ k => XS.iconst X27.here hx rfl (hb hby at_164) k) ?_
          show WP p e below _ (T27.setTop (mkF m 165 #[.val (.int p1), .val (.int p2), .val (.int p3), .val (.int p4), .val (.int (0 : Int32)), .val (.int z5_S0), .val (.int vi7), .val (.int vi8), .val (.int vi10), .val (.int vi11), .val (.int z13_S0), .val (.int vi15), .val (.int z17_L12), .val (.int vi19), .val (.ref b20), .val (.ref b21), .unset, .unset, .unset] [(.int (1 : Int32)), (.ref b21)]))
          refine own_go (fun t_ k => XS.iload X27.here hx rfl (hb hby at_165) rfl k) ?_
          show WP p e below _ (T27.setTop (mkF m 167 #[.val (.int p1), .val (.int p2), .val (.int p3), .val (.int p4), .val (.int (0 : Int32)), .val (.int z5_S0), .val (.int vi7), .val (.int vi8), .val (.int vi10), .val (.int vi11), .val (.int z13_S0), .val (.int vi15), .val (.int z17_L12), .val (.int vi19), .val (.ref b20), .val (.ref b21), .unset, .unset, .unset] [(.int vi19), (.int (1 : Int32)), (.ref b21)]))
          refine own_go (fun t_ k => XS.i2c X27.here hx rfl (hb hby at_167) rfl k) ?_
          show WP p e below _ (T27.setTop (mkF m 168 #[.val (.int p1), .val (.int p2), .val (.int p3), .val (.int p4), .val (.int (0 : Int32)), .val (.int z5_S0), .val (.int vi7), .val (.int vi8), .val (.int vi10), .val (.int vi11), .val (.int z13_S0), .val (.int vi15), .val (.int z17_L12), .val (.int vi19), .val (.ref b20), .val (.ref b21), .unset, .unset, .unset] [(.int (vi19.toUInt32.toUInt16.toUInt32.toInt32)), (.int (1 : Int32)), (.ref b21)]))
          obtain ⟨cl28, Ar28, q28, S28, M28, H28, G28⟩ := id ((V25.other W27 (Ne.symm ne_b20_b21)))
          have hin28 : ¬ ((1 : Int32) < 0 ∨ cl28.slots.size ≤ ((1 : Int32)).toNatClampNeg) := inb_of S28 (⟨by decide, by decide⟩)
          obtain ⟨T29, h29, X29, e29, W29, st29⟩ := stC X27 hx hZ e27 Ar28 (j := (1 : Int32)) hin28 (g := (mkF m 168 #[.val (.int p1), .val (.int p2), .val (.int p3), .val (.int p4), .val (.int (0 : Int32)), .val (.int z5_S0), .val (.int vi7), .val (.int vi8), .val (.int vi10), .val (.int vi11), .val (.int z13_S0), .val (.int vi15), .val (.int z17_L12), .val (.int vi19), .val (.ref b20), .val (.ref b21), .unset, .unset, .unset] [(.int (vi19.toUInt32.toUInt16.toUInt32.toInt32)), (.int (1 : Int32)), (.ref b21)])) rfl rfl (hb hby at_168)
          refine own_go st29 ?_
          have V29 : Arv Z h29 b21 k21 .char (3 : Int32) [(.int ((vi11.toUInt32.toUInt16.toUInt32.toInt32).toUInt32.toUInt16.toUInt32.toInt32)), (.int ((vi19.toUInt32.toUInt16.toUInt32.toInt32).toUInt32.toUInt16.toUInt32.toInt32)), (.int (0 : Int32))] (.int (0 : Int32)) := Arv.set Ar28 q28 S28 M28 H28 G28 (fits_nar_char _) W29 1 rfl (Nat.le_of_ble_eq_true rfl)
          have N29 := Fr.snoc X29 N27 g_b21
          have K29 : Keep h0 h29 [] := K27.wr W29 (Or.inr sz_b21)
          show WP p e below _ (T29.setTop (mkF m 169 #[.val (.int p1), .val (.int p2), .val (.int p3), .val (.int p4), .val (.int (0 : Int32)), .val (.int z5_S0), .val (.int vi7), .val (.int vi8), .val (.int vi10), .val (.int vi11), .val (.int z13_S0), .val (.int vi15), .val (.int z17_L12), .val (.int vi19), .val (.ref b20), .val (.ref b21), .unset, .unset, .unset] []))
          refine own_go (fun t_ k => XS.aload X29.here hx rfl (hb hby at_169) rfl rfl k) ?_
          show WP p e below _ (T29.setTop (mkF m 171 #[.val (.int p1), .val (.int p2), .val (.int p3), .val (.int p4), .val (.int (0 : Int32)), .val (.int z5_S0), .val (.int vi7), .val (.int vi8), .val (.int vi10), .val (.int vi11), .val (.int z13_S0), .val (.int vi15), .val (.int z17_L12), .val (.int vi19), .val (.ref b20), .val (.ref b21), .unset, .unset, .unset] [(.ref b20)]))
          refine own_go (fun t_ k => XS.iconst X29.here hx rfl (hb hby at_171) k) ?_
          show WP p e below _ (T29.setTop (mkF m 172 #[.val (.int p1), .val (.int p2), .val (.int p3), .val (.int p4), .val (.int (0 : Int32)), .val (.int z5_S0), .val (.int vi7), .val (.int vi8), .val (.int vi10), .val (.int vi11), .val (.int z13_S0), .val (.int vi15), .val (.int z17_L12), .val (.int vi19), .val (.ref b20), .val (.ref b21), .unset, .unset, .unset] [(.int (2 : Int32)), (.ref b20)]))
          refine own_go (fun t_ k => XS.bipush X29.here hx rfl (hb hby at_172) k) ?_
          show WP p e below _ (T29.setTop (mkF m 174 #[.val (.int p1), .val (.int p2), .val (.int p3), .val (.int p4), .val (.int (0 : Int32)), .val (.int z5_S0), .val (.int vi7), .val (.int vi8), .val (.int vi10), .val (.int vi11), .val (.int z13_S0), .val (.int vi15), .val (.int z17_L12), .val (.int vi19), .val (.ref b20), .val (.ref b21), .unset, .unset, .unset] [(.int (7 : Int32)), (.int (2 : Int32)), (.ref b20)]))
          obtain ⟨cl30, Ar30, q30, S30, M30, H30, G30⟩ := id ((V27.other W29 ne_b20_b21))
          have hin30 : ¬ ((2 : Int32) < 0 ∨ cl30.slots.size ≤ ((2 : Int32)).toNatClampNeg) := inb_of S30 (⟨by decide, by decide⟩)
          obtain ⟨T31, h31, X31, e31, W31, st31⟩ := stC X29 hx hZ e29 Ar30 (j := (2 : Int32)) hin30 (g := (mkF m 174 #[.val (.int p1), .val (.int p2), .val (.int p3), .val (.int p4), .val (.int (0 : Int32)), .val (.int z5_S0), .val (.int vi7), .val (.int vi8), .val (.int vi10), .val (.int vi11), .val (.int z13_S0), .val (.int vi15), .val (.int z17_L12), .val (.int vi19), .val (.ref b20), .val (.ref b21), .unset, .unset, .unset] [(.int (7 : Int32)), (.int (2 : Int32)), (.ref b20)])) rfl rfl (hb hby at_174)
          refine own_go st31 ?_
          have V31 : Arv Z h31 b20 k20 .char (3 : Int32) [(.int ((vi10.toUInt32.toUInt16.toUInt32.toInt32).toUInt32.toUInt16.toUInt32.toInt32)), (.int ((z17_L12.toUInt32.toUInt16.toUInt32.toInt32).toUInt32.toUInt16.toUInt32.toInt32)), (.int ((7 : Int32).toUInt32.toUInt16.toUInt32.toInt32))] (.int (0 : Int32)) := Arv.set Ar30 q30 S30 M30 H30 G30 (fits_nar_char _) W31 2 rfl (Nat.le_of_ble_eq_true rfl)
          have N31 := Fr.snoc X31 N29 g_b20
          have K31 : Keep h0 h31 [] := K29.wr W31 (Or.inr sz_b20)
          show WP p e below _ (T31.setTop (mkF m 175 #[.val (.int p1), .val (.int p2), .val (.int p3), .val (.int p4), .val (.int (0 : Int32)), .val (.int z5_S0), .val (.int vi7), .val (.int vi8), .val (.int vi10), .val (.int vi11), .val (.int z13_S0), .val (.int vi15), .val (.int z17_L12), .val (.int vi19), .val (.ref b20), .val (.ref b21), .unset, .unset, .unset] []))
          refine own_go (fun t_ k => XS.aload X31.here hx rfl (hb hby at_175) rfl rfl k) ?_
          show WP p e below _ (T31.setTop (mkF m 177 #[.val (.int p1), .val (.int p2), .val (.int p3), .val (.int p4), .val (.int (0 : Int32)), .val (.int z5_S0), .val (.int vi7), .val (.int vi8), .val (.int vi10), .val (.int vi11), .val (.int z13_S0), .val (.int vi15), .val (.int z17_L12), .val (.int vi19), .val (.ref b20), .val (.ref b21), .unset, .unset, .unset] [(.ref b21)]))
          refine own_go (fun t_ k => XS.iconst X31.here hx rfl (hb hby at_177) k) ?_
          show WP p e below _ (T31.setTop (mkF m 178 #[.val (.int p1), .val (.int p2), .val (.int p3), .val (.int p4), .val (.int (0 : Int32)), .val (.int z5_S0), .val (.int vi7), .val (.int vi8), .val (.int vi10), .val (.int vi11), .val (.int z13_S0), .val (.int vi15), .val (.int z17_L12), .val (.int vi19), .val (.ref b20), .val (.ref b21), .unset, .unset, .unset] [(.int (2 : Int32)), (.ref b21)]))
          refine own_go (fun t_ k => XS.bipush X31.here hx rfl (hb hby at_178) k) ?_
          show WP p e below _ (T31.setTop (mkF m 180 #[.val (.int p1), .val (.int p2), .val (.int p3), .val (.int p4), .val (.int (0 : Int32)), .val (.int z5_S0), .val (.int vi7), .val (.int vi8), .val (.int vi10), .val (.int vi11), .val (.int z13_S0), .val (.int vi15), .val (.int z17_L12), .val (.int vi19), .val (.ref b20), .val (.ref b21), .unset, .unset, .unset] [(.int (9 : Int32)), (.int (2 : Int32)), (.ref b21)]))
          obtain ⟨cl32, Ar32, q32, S32, M32, H32, G32⟩ := id ((V29.other W31 (Ne.symm ne_b20_b21)))
          have hin32 : ¬ ((2 : Int32) < 0 ∨ cl32.slots.size ≤ ((2 : Int32)).toNatClampNeg) := inb_of S32 (⟨by decide, by decide⟩)
          obtain ⟨T33, h33, X33, e33, W33, st33⟩ := stC X31 hx hZ e31 Ar32 (j := (2 : Int32)) hin32 (g := (mkF m 180 #[.val (.int p1), .val (.int p2), .val (.int p3), .val (.int p4), .val (.int (0 : Int32)), .val (.int z5_S0), .val (.int vi7), .val (.int vi8), .val (.int vi10), .val (.int vi11), .val (.int z13_S0), .val (.int vi15), .val (.int z17_L12), .val (.int vi19), .val (.ref b20), .val (.ref b21), .unset, .unset, .unset] [(.int (9 : Int32)), (.int (2 : Int32)), (.ref b21)])) rfl rfl (hb hby at_180)
          refine own_go st33 ?_
          have V33 : Arv Z h33 b21 k21 .char (3 : Int32) [(.int ((vi11.toUInt32.toUInt16.toUInt32.toInt32).toUInt32.toUInt16.toUInt32.toInt32)), (.int ((vi19.toUInt32.toUInt16.toUInt32.toInt32).toUInt32.toUInt16.toUInt32.toInt32)), (.int ((9 : Int32).toUInt32.toUInt16.toUInt32.toInt32))] (.int (0 : Int32)) := Arv.set Ar32 q32 S32 M32 H32 G32 (fits_nar_char _) W33 2 rfl (Nat.le_of_ble_eq_true rfl)
          have N33 := Fr.snoc X33 N31 g_b21
          have K33 : Keep h0 h33 [] := K31.wr W33 (Or.inr sz_b21)
          show WP p e below _ (T33.setTop (mkF m 181 #[.val (.int p1), .val (.int p2), .val (.int p3), .val (.int p4), .val (.int (0 : Int32)), .val (.int z5_S0), .val (.int vi7), .val (.int vi8), .val (.int vi10), .val (.int vi11), .val (.int z13_S0), .val (.int vi15), .val (.int z17_L12), .val (.int vi19), .val (.ref b20), .val (.ref b21), .unset, .unset, .unset] []))
          refine own_go (fun t_ k => XS.iload X33.here hx rfl (hb hby at_181) rfl k) ?_
          show WP p e below _ (T33.setTop (mkF m 183 #[.val (.int p1), .val (.int p2), .val (.int p3), .val (.int p4), .val (.int (0 : Int32)), .val (.int z5_S0), .val (.int vi7), .val (.int vi8), .val (.int vi10), .val (.int vi11), .val (.int z13_S0), .val (.int vi15), .val (.int z17_L12), .val (.int vi19), .val (.ref b20), .val (.ref b21), .unset, .unset, .unset] [(.int (0 : Int32))]))
          have hc183_34 : ((0 : Int32) = (0 : Int32)) := by decide
          refine own_go (fun t_ k => XS.ifNo X33.here hx rfl (hb hby at_183) rfl ((if0 _ _).trans (teq hc183_34).2) k) ?_
          show WP p e below _ (T33.setTop (mkF m 186 #[.val (.int p1), .val (.int p2), .val (.int p3), .val (.int p4), .val (.int (0 : Int32)), .val (.int z5_S0), .val (.int vi7), .val (.int vi8), .val (.int vi10), .val (.int vi11), .val (.int z13_S0), .val (.int vi15), .val (.int z17_L12), .val (.int vi19), .val (.ref b20), .val (.ref b21), .unset, .unset, .unset] []))
          refine own_go (fun t_ k => XS.iconst X33.here hx rfl (hb hby at_186) k) ?_
          show WP p e below _ (T33.setTop (mkF m 187 #[.val (.int p1), .val (.int p2), .val (.int p3), .val (.int p4), .val (.int (0 : Int32)), .val (.int z5_S0), .val (.int vi7), .val (.int vi8), .val (.int vi10), .val (.int vi11), .val (.int z13_S0), .val (.int vi15), .val (.int z17_L12), .val (.int vi19), .val (.ref b20), .val (.ref b21), .unset, .unset, .unset] [(.int (0 : Int32))]))
          refine own_go (fun t_ k => XS.goto X33.here hx rfl (pc0 := 187) (pc' := 206) rfl (hb hby at_187) (by decide) (by decide) k) ?_
          show WP p e below _ (T33.setTop (mkF m 206 #[.val (.int p1), .val (.int p2), .val (.int p3), .val (.int p4), .val (.int (0 : Int32)), .val (.int z5_S0), .val (.int vi7), .val (.int vi8), .val (.int vi10), .val (.int vi11), .val (.int z13_S0), .val (.int vi15), .val (.int z17_L12), .val (.int vi19), .val (.ref b20), .val (.ref b21), .unset, .unset, .unset] [(.int (0 : Int32))]))
          refine own_go (fun t_ k => XS.istore X33.here hx rfl (hb hby at_206) rfl (l' := #[.val (.int p1), .val (.int p2), .val (.int p3), .val (.int p4), .val (.int (0 : Int32)), .val (.int z5_S0), .val (.int vi7), .val (.int vi8), .val (.int vi10), .val (.int vi11), .val (.int z13_S0), .val (.int vi15), .val (.int z17_L12), .val (.int vi19), .val (.ref b20), .val (.ref b21), .val (.int (0 : Int32)), .unset, .unset]) rfl k) ?_
          show WP p e below _ (T33.setTop (mkF m 208 #[.val (.int p1), .val (.int p2), .val (.int p3), .val (.int p4), .val (.int (0 : Int32)), .val (.int z5_S0), .val (.int vi7), .val (.int vi8), .val (.int vi10), .val (.int vi11), .val (.int z13_S0), .val (.int vi15), .val (.int z17_L12), .val (.int vi19), .val (.ref b20), .val (.ref b21), .val (.int (0 : Int32)), .unset, .unset] []))
          obtain ⟨T35, h35, X35, e35, E35, A35, D35, -, st35⟩ := newO X33 hx hZ hown (hw _ (List.mem_of_getElem? (i := 8) rfl)) (hw _ (List.mem_of_getElem? (i := 9) rfl)) (hw _ (List.mem_of_getElem? (i := 10) rfl)) e33 (g := (mkF m 208 #[.val (.int p1), .val (.int p2), .val (.int p3), .val (.int p4), .val (.int (0 : Int32)), .val (.int z5_S0), .val (.int vi7), .val (.int vi8), .val (.int vi10), .val (.int vi11), .val (.int z13_S0), .val (.int vi15), .val (.int z17_L12), .val (.int vi19), .val (.ref b20), .val (.ref b21), .val (.int (0 : Int32)), .unset, .unset] [])) rfl (hb hby at_208) (by decide) (by decide)
          obtain ⟨b35, g35⟩ : ∃ z, z = Array.size h33 := ⟨_, rfl⟩
          rw [← g35] at A35 D35 st35
          refine own_go st35 ?_
          have g_b35 : n0 ≤ b35 := Nat.le_trans (Nat.le_trans Z0 K33.1) (Nat.le_of_eq g35.symm)
          have sz_b35 : h0.size ≤ b35 := Nat.le_trans K33.1 (Nat.le_of_eq g35.symm)
          have ne_b20_b35 : b20 ≠ b35 := Nat.ne_of_lt (Nat.lt_of_lt_of_le (V31.other W33 ne_b20_b21).lt (Nat.le_of_eq g35.symm))
          have ne_b21_b35 : b21 ≠ b35 := Nat.ne_of_lt (Nat.lt_of_lt_of_le V33.lt (Nat.le_of_eq g35.symm))
          have K35 : Keep h0 h35 [] := K33.ext E35
          have F35_starts : Fld Z h35 b35 "com/example/cairn/cairn/RunContainer" "starts" "[C" .null := D35 (Or.inl (hw _ (List.mem_of_getElem? (i := 23) rfl))) (ty := (.array .char)) (by decide)
          have F35_ends : Fld Z h35 b35 "com/example/cairn/cairn/RunContainer" "ends" "[C" .null := D35 (Or.inl (hw _ (List.mem_of_getElem? (i := 25) rfl))) (ty := (.array .char)) (by decide)
          have F35_size : Fld Z h35 b35 "com/example/cairn/cairn/RunContainer" "size" "I" (.int (0 : Int32)) := D35 (Or.inl (hw _ (List.mem_of_getElem? (i := 27) rfl))) (ty := .int) (by decide)
          have F35_cardinality : Fld Z h35 b35 "com/example/cairn/cairn/RunContainer" "cardinality" "I" (.int (0 : Int32)) := D35 (Or.inl (hw _ (List.mem_of_getElem? (i := 29) rfl))) (ty := .int) (by decide)
          have F35_mayTouch : Fld Z h35 b35 "com/example/cairn/cairn/RunContainer" "mayTouch" "Z" (.int (0 : Int32)) := D35 (Or.inr (hw _ (List.mem_of_getElem? (i := 31) rfl))) (ty := .boolean) (by decide)
          show WP p e below _ (T35.setTop (mkF m 211 #[.val (.int p1), .val (.int p2), .val (.int p3), .val (.int p4), .val (.int (0 : Int32)), .val (.int z5_S0), .val (.int vi7), .val (.int vi8), .val (.int vi10), .val (.int vi11), .val (.int z13_S0), .val (.int vi15), .val (.int z17_L12), .val (.int vi19), .val (.ref b20), .val (.ref b21), .val (.int (0 : Int32)), .unset, .unset] [(.ref b35)]))
          refine own_go (fun t_ k => XS.dup X35.here hx rfl (hb hby at_211) rfl rfl k) ?_
          show WP p e below _ (T35.setTop (mkF m 212 #[.val (.int p1), .val (.int p2), .val (.int p3), .val (.int p4), .val (.int (0 : Int32)), .val (.int z5_S0), .val (.int vi7), .val (.int vi8), .val (.int vi10), .val (.int vi11), .val (.int z13_S0), .val (.int vi15), .val (.int z17_L12), .val (.int vi19), .val (.ref b20), .val (.ref b21), .val (.int (0 : Int32)), .unset, .unset] [(.ref b35), (.ref b35)]))
          refine own_go (fun t_ k => XS.aload X35.here hx rfl (hb hby at_212) rfl rfl k) ?_
          show WP p e below _ (T35.setTop (mkF m 214 #[.val (.int p1), .val (.int p2), .val (.int p3), .val (.int p4), .val (.int (0 : Int32)), .val (.int z5_S0), .val (.int vi7), .val (.int vi8), .val (.int vi10), .val (.int vi11), .val (.int z13_S0), .val (.int vi15), .val (.int z17_L12), .val (.int vi19), .val (.ref b20), .val (.ref b21), .val (.int (0 : Int32)), .unset, .unset] [(.ref b20), (.ref b35), (.ref b35)]))
          refine own_go (fun t_ k => XS.aload X35.here hx rfl (hb hby at_214) rfl rfl k) ?_
          show WP p e below _ (T35.setTop (mkF m 216 #[.val (.int p1), .val (.int p2), .val (.int p3), .val (.int p4), .val (.int (0 : Int32)), .val (.int z5_S0), .val (.int vi7), .val (.int vi8), .val (.int vi10), .val (.int vi11), .val (.int z13_S0), .val (.int vi15), .val (.int z17_L12), .val (.int vi19), .val (.ref b20), .val (.ref b21), .val (.int (0 : Int32)), .unset, .unset] [(.ref b21), (.ref b20), (.ref b35), (.ref b35)]))
          refine own_go (fun t_ k => XS.iload X35.here hx rfl (hb hby at_216) rfl k) ?_
          show WP p e below _ (T35.setTop (mkF m 218 #[.val (.int p1), .val (.int p2), .val (.int p3), .val (.int p4), .val (.int (0 : Int32)), .val (.int z5_S0), .val (.int vi7), .val (.int vi8), .val (.int vi10), .val (.int vi11), .val (.int z13_S0), .val (.int vi15), .val (.int z17_L12), .val (.int vi19), .val (.ref b20), .val (.ref b21), .val (.int (0 : Int32)), .unset, .unset] [(.int (0 : Int32)), (.ref b21), (.ref b20), (.ref b35), (.ref b35)]))
          refine own_go (fun t_ k => XS.iload X35.here hx rfl (hb hby at_218) rfl k) ?_
          show WP p e below _ (T35.setTop (mkF m 220 #[.val (.int p1), .val (.int p2), .val (.int p3), .val (.int p4), .val (.int (0 : Int32)), .val (.int z5_S0), .val (.int vi7), .val (.int vi8), .val (.int vi10), .val (.int vi11), .val (.int z13_S0), .val (.int vi15), .val (.int z17_L12), .val (.int vi19), .val (.ref b20), .val (.ref b21), .val (.int (0 : Int32)), .unset, .unset] [(.int (0 : Int32)), (.int (0 : Int32)), (.ref b21), (.ref b20), (.ref b35), (.ref b35)]))
          refine own_go (fun t_ k => XS.iload X35.here hx rfl (hb hby at_220) rfl k) ?_
          show WP p e below _ (T35.setTop (mkF m 222 #[.val (.int p1), .val (.int p2), .val (.int p3), .val (.int p4), .val (.int (0 : Int32)), .val (.int z5_S0), .val (.int vi7), .val (.int vi8), .val (.int vi10), .val (.int vi11), .val (.int z13_S0), .val (.int vi15), .val (.int z17_L12), .val (.int vi19), .val (.ref b20), .val (.ref b21), .val (.int (0 : Int32)), .unset, .unset] [(.int z5_S0), (.int (0 : Int32)), (.int (0 : Int32)), (.ref b21), (.ref b20), (.ref b35), (.ref b35)]))
          obtain ⟨_, _, ⟨T36, L36, k36, n36⟩, -, X36, ⟨Lc36, hQ36, l36, y36, z36⟩, st36⟩ := X35.specialBack hx (y := (⟨"com/example/cairn/cairn/RunContainer", "<init>", "([C[CIIZ)V"⟩ : MethodName)) rfl hown (mvT hZ (hw _ (List.mem_of_getElem? (i := 11) rfl))) (mvT hZ (hw _ (List.mem_of_getElem? (i := 12) rfl))) (mvT hZ (hw _ (List.mem_of_getElem? (i := 13) rfl))) (by decide) (backOf (W := 1) (rm2 l Z a0 hw [] b35 b20 b21 (0 : Int32) (0 : Int32) z5_S0 h35 n0 A35 g_b35 F35_starts F35_ends F35_size F35_cardinality F35_mayTouch) hZ (hw _ (List.mem_of_getElem? (i := 13) rfl)) (hw _ (List.mem_of_getElem? (i := 10) rfl)) (by decide) (by decide)) (g := (mkF m 222 #[.val (.int p1), .val (.int p2), .val (.int p3), .val (.int p4), .val (.int (0 : Int32)), .val (.int z5_S0), .val (.int vi7), .val (.int vi8), .val (.int vi10), .val (.int vi11), .val (.int z13_S0), .val (.int vi15), .val (.int z17_L12), .val (.int vi19), .val (.ref b20), .val (.ref b21), .val (.int (0 : Int32)), .unset, .unset] [(.int z5_S0), (.int (0 : Int32)), (.int (0 : Int32)), (.ref b21), (.ref b20), (.ref b35), (.ref b35)])) rfl (by rw [hml]; rfl) (Steps.refl _) (a := b35) (argsL := [(.ref b20), (.ref b21), (.int (0 : Int32)), (.int (0 : Int32)), (.int z5_S0)]) (rest := [(.ref b35)]) (lenOf pd_2 rfl) rfl (by show 2 * 0 + _ ≤ _; exact Nat.le_of_eq rfl) (hb hby at_222) (fun _ _ => ⟨rfl, e35, (by decide : 3 + 0 ≤ _), (by decide : 12 + 0 ≤ _)⟩)
          dsimp only [Pt.U, Pt.locs, Pt.cells, Pt.slots] at X36 l36 y36 z36 st36 hQ36
          subst l36 y36 z36
          obtain ⟨rfl, N36q, K36c, E36c, Fa36, Fb36, Fs36⟩ := hQ36
          have N36 := Fr.app N33 N36q
          replace X36 : Stand p l e room_1 s m _ below meth c T36 _ 3 12 := X36
          refine own_go (fun t_ k => st36.trans k) ?_
          have K36 : Keep h0 T36.heap [] := K35.trans K36c (allS (Or.inr sz_b35) all0)
          show WP p e below _ (T36.setTop (mkF m 225 #[.val (.int p1), .val (.int p2), .val (.int p3), .val (.int p4), .val (.int (0 : Int32)), .val (.int z5_S0), .val (.int vi7), .val (.int vi8), .val (.int vi10), .val (.int vi11), .val (.int z13_S0), .val (.int vi15), .val (.int z17_L12), .val (.int vi19), .val (.ref b20), .val (.ref b21), .val (.int (0 : Int32)), .unset, .unset] [(.ref b35)]))
          refine own_go (fun t_ k => XS.astore X36.here hx rfl (hb hby at_225) rfl rfl (l' := #[.val (.int p1), .val (.int p2), .val (.int p3), .val (.int p4), .val (.int (0 : Int32)), .val (.int z5_S0), .val (.int vi7), .val (.int vi8), .val (.int vi10), .val (.int vi11), .val (.int z13_S0), .val (.int vi15), .val (.int z17_L12), .val (.int vi19), .val (.ref b20), .val (.ref b21), .val (.int (0 : Int32)), .val (.ref b35), .unset]) rfl k) ?_
          show WP p e below _ (T36.setTop (mkF m 227 #[.val (.int p1), .val (.int p2), .val (.int p3), .val (.int p4), .val (.int (0 : Int32)), .val (.int z5_S0), .val (.int vi7), .val (.int vi8), .val (.int vi10), .val (.int vi11), .val (.int z13_S0), .val (.int vi15), .val (.int z17_L12), .val (.int vi19), .val (.ref b20), .val (.ref b21), .val (.int (0 : Int32)), .val (.ref b35), .unset] []))
          refine own_go (fun t_ k => XS.iconst X36.here hx rfl (hb hby at_227) k) ?_
          show WP p e below _ (T36.setTop (mkF m 228 #[.val (.int p1), .val (.int p2), .val (.int p3), .val (.int p4), .val (.int (0 : Int32)), .val (.int z5_S0), .val (.int vi7), .val (.int vi8), .val (.int vi10), .val (.int vi11), .val (.int z13_S0), .val (.int vi15), .val (.int z17_L12), .val (.int vi19), .val (.ref b20), .val (.ref b21), .val (.int (0 : Int32)), .val (.ref b35), .unset] [(.int (0 : Int32))]))
          refine own_go (fun t_ k => XS.istore X36.here hx rfl (hb hby at_228) rfl (l' := #[.val (.int p1), .val (.int p2), .val (.int p3), .val (.int p4), .val (.int (0 : Int32)), .val (.int z5_S0), .val (.int vi7), .val (.int vi8), .val (.int vi10), .val (.int vi11), .val (.int z13_S0), .val (.int vi15), .val (.int z17_L12), .val (.int vi19), .val (.ref b20), .val (.ref b21), .val (.int (0 : Int32)), .val (.ref b35), .val (.int (0 : Int32))]) rfl k) ?_
          show WP p e below _ (T36.setTop (mkF m 230 #[.val (.int p1), .val (.int p2), .val (.int p3), .val (.int p4), .val (.int (0 : Int32)), .val (.int z5_S0), .val (.int vi7), .val (.int vi8), .val (.int vi10), .val (.int vi11), .val (.int z13_S0), .val (.int vi15), .val (.int z17_L12), .val (.int vi19), .val (.ref b20), .val (.ref b21), .val (.int (0 : Int32)), .val (.ref b35), .val (.int (0 : Int32))] []))
          refine own_go (fun t_ k => XS.iload X36.here hx rfl (hb hby at_230) rfl k) ?_
          show WP p e below _ (T36.setTop (mkF m 232 #[.val (.int p1), .val (.int p2), .val (.int p3), .val (.int p4), .val (.int (0 : Int32)), .val (.int z5_S0), .val (.int vi7), .val (.int vi8), .val (.int vi10), .val (.int vi11), .val (.int z13_S0), .val (.int vi15), .val (.int z17_L12), .val (.int vi19), .val (.ref b20), .val (.ref b21), .val (.int (0 : Int32)), .val (.ref b35), .val (.int (0 : Int32))] [(.int (0 : Int32))]))
          refine own_go (fun t_ k => XS.iconst X36.here hx rfl (hb hby at_232) k) ?_
          show WP p e below _ (T36.setTop (mkF m 233 #[.val (.int p1), .val (.int p2), .val (.int p3), .val (.int p4), .val (.int (0 : Int32)), .val (.int z5_S0), .val (.int vi7), .val (.int vi8), .val (.int vi10), .val (.int vi11), .val (.int z13_S0), .val (.int vi15), .val (.int z17_L12), .val (.int vi19), .val (.ref b20), .val (.ref b21), .val (.int (0 : Int32)), .val (.ref b35), .val (.int (0 : Int32))] [(.int (1 : Int32)), (.int (0 : Int32))]))
          have hc233_37 : ((0 : Int32) < (1 : Int32)) := by decide
          refine own_go (fun t_ k => XS.icmpYes X36.here hx rfl (pc0 := 233) (pc' := 247) rfl (hb hby at_233) rfl (tlt hc233_37).1 (by decide) (by decide) k) ?_
          show WP p e below _ (T36.setTop (mkF m 247 #[.val (.int p1), .val (.int p2), .val (.int p3), .val (.int p4), .val (.int (0 : Int32)), .val (.int z5_S0), .val (.int vi7), .val (.int vi8), .val (.int vi10), .val (.int vi11), .val (.int z13_S0), .val (.int vi15), .val (.int z17_L12), .val (.int vi19), .val (.ref b20), .val (.ref b21), .val (.int (0 : Int32)), .val (.ref b35), .val (.int (0 : Int32))] []))
          refine own_go (fun t_ k => XS.iload X36.here hx rfl (hb hby at_247) rfl k) ?_
          show WP p e below _ (T36.setTop (mkF m 249 #[.val (.int p1), .val (.int p2), .val (.int p3), .val (.int p4), .val (.int (0 : Int32)), .val (.int z5_S0), .val (.int vi7), .val (.int vi8), .val (.int vi10), .val (.int vi11), .val (.int z13_S0), .val (.int vi15), .val (.int z17_L12), .val (.int vi19), .val (.ref b20), .val (.ref b21), .val (.int (0 : Int32)), .val (.ref b35), .val (.int (0 : Int32))] [(.int (0 : Int32))]))
          refine own_go (fun t_ k => XS.iconst X36.here hx rfl (hb hby at_249) k) ?_
          show WP p e below _ (T36.setTop (mkF m 250 #[.val (.int p1), .val (.int p2), .val (.int p3), .val (.int p4), .val (.int (0 : Int32)), .val (.int z5_S0), .val (.int vi7), .val (.int vi8), .val (.int vi10), .val (.int vi11), .val (.int z13_S0), .val (.int vi15), .val (.int z17_L12), .val (.int vi19), .val (.ref b20), .val (.ref b21), .val (.int (0 : Int32)), .val (.ref b35), .val (.int (0 : Int32))] [(.int (2 : Int32)), (.int (0 : Int32))]))
          have hc250_38 : ((0 : Int32) < (2 : Int32)) := by decide
          refine own_go (fun t_ k => XS.icmpYes X36.here hx rfl (pc0 := 250) (pc' := 264) rfl (hb hby at_250) rfl (tlt hc250_38).1 (by decide) (by decide) k) ?_
          show WP p e below _ (T36.setTop (mkF m 264 #[.val (.int p1), .val (.int p2), .val (.int p3), .val (.int p4), .val (.int (0 : Int32)), .val (.int z5_S0), .val (.int vi7), .val (.int vi8), .val (.int vi10), .val (.int vi11), .val (.int z13_S0), .val (.int vi15), .val (.int z17_L12), .val (.int vi19), .val (.ref b20), .val (.ref b21), .val (.int (0 : Int32)), .val (.ref b35), .val (.int (0 : Int32))] []))
          refine own_go (fun t_ k => XS.aload X36.here hx rfl (hb hby at_264) rfl rfl k) ?_
          show WP p e below _ (T36.setTop (mkF m 266 #[.val (.int p1), .val (.int p2), .val (.int p3), .val (.int p4), .val (.int (0 : Int32)), .val (.int z5_S0), .val (.int vi7), .val (.int vi8), .val (.int vi10), .val (.int vi11), .val (.int z13_S0), .val (.int vi15), .val (.int z17_L12), .val (.int vi19), .val (.ref b20), .val (.ref b21), .val (.int (0 : Int32)), .val (.ref b35), .val (.int (0 : Int32))] [(.ref b35)]))
          obtain ⟨cq39, kq39, q39a, q39b, q39c⟩ := isOf (T := T36) hZ rfl E36c
          obtain ⟨_, _, ⟨T39, L39, k39, n39⟩, -, X39, ⟨Lc39, hQ39, l39, y39, z39⟩, st39⟩ := X36.virtualBack hx (y := (⟨"com/example/cairn/cairn/RunContainer", "valuesHash", "()I"⟩ : MethodName)) (z := (⟨"com/example/cairn/cairn/RunContainer", "valuesHash", "()I"⟩ : MethodName)) hown (mvT hZ (hw _ (List.mem_of_getElem? (i := 36) rfl))) (mvT hZ (hw _ (List.mem_of_getElem? (i := 37) rfl))) (notFace_of_selects (args := #[]) (mvT hZ (hw _ (List.mem_of_getElem? (i := 39) rfl)))) (mvT hZ (hw _ (List.mem_of_getElem? (i := 39) rfl))) (mvT hZ (hw _ (List.mem_of_getElem? (i := 38) rfl))) (by decide) (backOf (W := 0) (rm6_0 l Z a0 hw [] b35 b20 b21 k20 k21 ((vi10.toUInt32.toUInt16.toUInt32.toInt32).toUInt32.toUInt16.toUInt32.toInt32) ((z17_L12.toUInt32.toUInt16.toUInt32.toInt32).toUInt32.toUInt16.toUInt32.toInt32) ((vi11.toUInt32.toUInt16.toUInt32.toInt32).toUInt32.toUInt16.toUInt32.toInt32) ((vi19.toUInt32.toUInt16.toUInt32.toInt32).toUInt32.toUInt16.toUInt32.toInt32) (vi7).toInt.toNat (vi8).toInt.toNat T36.heap n0 Fa36 Fb36 Fs36 (((V31.other W33 ne_b20_b21).ext E35).keep K36c (ninS ne_b20_b35 nin0)) ((V33.ext E35).keep K36c (ninS ne_b21_b35 nin0)) ) hZ (hw _ (List.mem_of_getElem? (i := 40) rfl)) (hw _ (List.mem_of_getElem? (i := 10) rfl)) (by decide) (by decide)) q39a q39c (g := (mkF m 266 #[.val (.int p1), .val (.int p2), .val (.int p3), .val (.int p4), .val (.int (0 : Int32)), .val (.int z5_S0), .val (.int vi7), .val (.int vi8), .val (.int vi10), .val (.int vi11), .val (.int z13_S0), .val (.int vi15), .val (.int z17_L12), .val (.int vi19), .val (.ref b20), .val (.ref b21), .val (.int (0 : Int32)), .val (.ref b35), .val (.int (0 : Int32))] [(.ref b35)])) rfl (by rw [hml]; rfl) (Steps.refl _) (argsL := []) (rest := []) (lenOf pd_3 rfl) rfl (by show 2 * 0 + _ ≤ _; exact Nat.le_of_eq rfl) (hb hby at_266) (fun _ _ => ⟨rfl, rfl, (by decide : 3 + 0 ≤ _), (by decide : 12 + 0 ≤ _)⟩)
          dsimp only [Pt.U, Pt.locs, Pt.cells, Pt.slots] at X39 l39 y39 z39 st39 hQ39
          subst l39 y39 z39
          obtain ⟨rfl, N39q, e39⟩ := hQ39
          have N39 := Fr.app N36 N39q
          replace X39 : Stand p l e room_1 s m _ below meth c T39 _ 3 12 := X39
          refine own_go (fun t_ k => st39.trans k) ?_
          show WP p e below _ (T39.setTop (mkF m 269 #[.val (.int p1), .val (.int p2), .val (.int p3), .val (.int p4), .val (.int (0 : Int32)), .val (.int z5_S0), .val (.int vi7), .val (.int vi8), .val (.int vi10), .val (.int vi11), .val (.int z13_S0), .val (.int vi15), .val (.int z17_L12), .val (.int vi19), .val (.ref b20), .val (.ref b21), .val (.int (0 : Int32)), .val (.ref b35), .val (.int (0 : Int32))] [(.int (0 : Int32))]))
          refine own_go (fun t_ k => XS.iload X39.here hx rfl (hb hby at_269) rfl k) ?_
          show WP p e below _ (T39.setTop (mkF m 271 #[.val (.int p1), .val (.int p2), .val (.int p3), .val (.int p4), .val (.int (0 : Int32)), .val (.int z5_S0), .val (.int vi7), .val (.int vi8), .val (.int vi10), .val (.int vi11), .val (.int z13_S0), .val (.int vi15), .val (.int z17_L12), .val (.int vi19), .val (.ref b20), .val (.ref b21), .val (.int (0 : Int32)), .val (.ref b35), .val (.int (0 : Int32))] [(.int (0 : Int32)), (.int (0 : Int32))]))
          have hc271_40 : ((0 : Int32) = (0 : Int32)) := by decide
          refine own_go (fun t_ k => XS.icmpNo X39.here hx rfl (hb hby at_271) rfl (teq hc271_40).2 k) ?_
          show WP p e below _ (T39.setTop (mkF m 274 #[.val (.int p1), .val (.int p2), .val (.int p3), .val (.int p4), .val (.int (0 : Int32)), .val (.int z5_S0), .val (.int vi7), .val (.int vi8), .val (.int vi10), .val (.int vi11), .val (.int z13_S0), .val (.int vi15), .val (.int z17_L12), .val (.int vi19), .val (.ref b20), .val (.ref b21), .val (.int (0 : Int32)), .val (.ref b35), .val (.int (0 : Int32))] []))
          refine own_go (fun t_ k => XS.iconst X39.here hx rfl (hb hby at_274) k) ?_
          show WP p e below _ (T39.setTop (mkF m 275 #[.val (.int p1), .val (.int p2), .val (.int p3), .val (.int p4), .val (.int (0 : Int32)), .val (.int z5_S0), .val (.int vi7), .val (.int vi8), .val (.int vi10), .val (.int vi11), .val (.int z13_S0), .val (.int vi15), .val (.int z17_L12), .val (.int vi19), .val (.ref b20), .val (.ref b21), .val (.int (0 : Int32)), .val (.ref b35), .val (.int (0 : Int32))] [(.int (1 : Int32))]))
          refine own_go (fun t_ k => XS.goto X39.here hx rfl (pc0 := 275) (pc' := 279) rfl (hb hby at_275) (by decide) (by decide) k) ?_
          show WP p e below _ (T39.setTop (mkF m 279 #[.val (.int p1), .val (.int p2), .val (.int p3), .val (.int p4), .val (.int (0 : Int32)), .val (.int z5_S0), .val (.int vi7), .val (.int vi8), .val (.int vi10), .val (.int vi11), .val (.int z13_S0), .val (.int vi15), .val (.int z17_L12), .val (.int vi19), .val (.ref b20), .val (.ref b21), .val (.int (0 : Int32)), .val (.ref b35), .val (.int (0 : Int32))] [(.int (1 : Int32))]))
          exact own_retZ X39 hx Bd.notSynchronized Bd.returns (hb hby at_279) (by decide) (show Q0 n0 _ _ _ from ⟨rfl, N39⟩) (by decide) (by decide)
        by_cases hc91_16 : (0 : Int32) < vi15
        · refine own_go (fun t_ k => XS.ifNo X14.here hx rfl (hb hby at_91) rfl ((if0 _ _).trans (tlt hc91_16).2.2.2) k) ?_
          show WP p e below _ (T14.setTop (mkF m 94 #[.val (.int p1), .val (.int p2), .val (.int p3), .val (.int p4), .val (.int (0 : Int32)), .val (.int z5_S0), .val (.int vi7), .val (.int vi8), .val (.int vi10), .val (.int vi11), .val (.int z13_S0), .val (.int vi15), .val (.int (0 : Int32)), .unset, .unset, .unset, .unset, .unset, .unset] []))
          refine own_go (fun t_ k => XS.iload X14.here hx rfl (hb hby at_94) rfl k) ?_
          show WP p e below _ (T14.setTop (mkF m 96 #[.val (.int p1), .val (.int p2), .val (.int p3), .val (.int p4), .val (.int (0 : Int32)), .val (.int z5_S0), .val (.int vi7), .val (.int vi8), .val (.int vi10), .val (.int vi11), .val (.int z13_S0), .val (.int vi15), .val (.int (0 : Int32)), .unset, .unset, .unset, .unset, .unset, .unset] [(.int vi11)]))
          refine own_go (fun t_ k => XS.iconst X14.here hx rfl (hb hby at_96) k) ?_
          show WP p e below _ (T14.setTop (mkF m 97 #[.val (.int p1), .val (.int p2), .val (.int p3), .val (.int p4), .val (.int (0 : Int32)), .val (.int z5_S0), .val (.int vi7), .val (.int vi8), .val (.int vi10), .val (.int vi11), .val (.int z13_S0), .val (.int vi15), .val (.int (0 : Int32)), .unset, .unset, .unset, .unset, .unset, .unset] [(.int (1 : Int32)), (.int vi11)]))
          refine own_go (fun t_ k => XS.iadd X14.here hx rfl (hb hby at_97) rfl k) ?_
          show WP p e below _ (T14.setTop (mkF m 98 #[.val (.int p1), .val (.int p2), .val (.int p3), .val (.int p4), .val (.int (0 : Int32)), .val (.int z5_S0), .val (.int vi7), .val (.int vi8), .val (.int vi10), .val (.int vi11), .val (.int z13_S0), .val (.int vi15), .val (.int (0 : Int32)), .unset, .unset, .unset, .unset, .unset, .unset] [(.int (vi11 + (1 : Int32)))]))
          refine own_go (fun t_ k => XS.iload X14.here hx rfl (hb hby at_98) rfl k) ?_
          show WP p e below _ (T14.setTop (mkF m 100 #[.val (.int p1), .val (.int p2), .val (.int p3), .val (.int p4), .val (.int (0 : Int32)), .val (.int z5_S0), .val (.int vi7), .val (.int vi8), .val (.int vi10), .val (.int vi11), .val (.int z13_S0), .val (.int vi15), .val (.int (0 : Int32)), .unset, .unset, .unset, .unset, .unset, .unset] [(.int z13_S0), (.int (vi11 + (1 : Int32)))]))
          refine own_go (fun t_ k => XS.iadd X14.here hx rfl (hb hby at_100) rfl k) ?_
          show WP p e below _ (T14.setTop (mkF m 101 #[.val (.int p1), .val (.int p2), .val (.int p3), .val (.int p4), .val (.int (0 : Int32)), .val (.int z5_S0), .val (.int vi7), .val (.int vi8), .val (.int vi10), .val (.int vi11), .val (.int z13_S0), .val (.int vi15), .val (.int (0 : Int32)), .unset, .unset, .unset, .unset, .unset, .unset] [(.int ((vi11 + (1 : Int32)) + z13_S0))]))
          refine own_go (fun t_ k => XS.iloadN X14.here hx rfl (hb hby at_101) rfl k) ?_
          show WP p e below _ (T14.setTop (mkF m 102 #[.val (.int p1), .val (.int p2), .val (.int p3), .val (.int p4), .val (.int (0 : Int32)), .val (.int z5_S0), .val (.int vi7), .val (.int vi8), .val (.int vi10), .val (.int vi11), .val (.int z13_S0), .val (.int vi15), .val (.int (0 : Int32)), .unset, .unset, .unset, .unset, .unset, .unset] [(.int p2), (.int ((vi11 + (1 : Int32)) + z13_S0))]))
          refine own_go (fun t_ k => X14.ldcInt hx hown (mvT hZ (hw _ (List.mem_of_getElem? (i := 6) rfl))) (g := (mkF m 102 #[.val (.int p1), .val (.int p2), .val (.int p3), .val (.int p4), .val (.int (0 : Int32)), .val (.int z5_S0), .val (.int vi7), .val (.int vi8), .val (.int vi10), .val (.int vi11), .val (.int z13_S0), .val (.int vi15), .val (.int (0 : Int32)), .unset, .unset, .unset, .unset, .unset, .unset] [(.int p2), (.int ((vi11 + (1 : Int32)) + z13_S0))])) rfl (hb hby at_102) _ k) ?_
          show WP p e below _ (T14.setTop (mkF m 104 #[.val (.int p1), .val (.int p2), .val (.int p3), .val (.int p4), .val (.int (0 : Int32)), .val (.int z5_S0), .val (.int vi7), .val (.int vi8), .val (.int vi10), .val (.int vi11), .val (.int z13_S0), .val (.int vi15), .val (.int (0 : Int32)), .unset, .unset, .unset, .unset, .unset, .unset] [(.int (2147483647 : Int32)), (.int p2), (.int ((vi11 + (1 : Int32)) + z13_S0))]))
          refine own_go (fun t_ k => XS.iand X14.here hx rfl (hb hby at_104) rfl k) ?_
          show WP p e below _ (T14.setTop (mkF m 105 #[.val (.int p1), .val (.int p2), .val (.int p3), .val (.int p4), .val (.int (0 : Int32)), .val (.int z5_S0), .val (.int vi7), .val (.int vi8), .val (.int vi10), .val (.int vi11), .val (.int z13_S0), .val (.int vi15), .val (.int (0 : Int32)), .unset, .unset, .unset, .unset, .unset, .unset] [(.int (p2 &&& (2147483647 : Int32))), (.int ((vi11 + (1 : Int32)) + z13_S0))]))
          refine own_go (fun t_ k => XS.iload X14.here hx rfl (hb hby at_105) rfl k) ?_
          show WP p e below _ (T14.setTop (mkF m 107 #[.val (.int p1), .val (.int p2), .val (.int p3), .val (.int p4), .val (.int (0 : Int32)), .val (.int z5_S0), .val (.int vi7), .val (.int vi8), .val (.int vi10), .val (.int vi11), .val (.int z13_S0), .val (.int vi15), .val (.int (0 : Int32)), .unset, .unset, .unset, .unset, .unset, .unset] [(.int vi15), (.int (p2 &&& (2147483647 : Int32))), (.int ((vi11 + (1 : Int32)) + z13_S0))]))
          refine own_go (fun t_ k => iremM X14 hx rfl (hb hby at_107) rfl (fun q => by rw [q] at hc91_16; exact absurd hc91_16 (by decide)) k) ?_
          show WP p e below _ (T14.setTop (mkF m 108 #[.val (.int p1), .val (.int p2), .val (.int p3), .val (.int p4), .val (.int (0 : Int32)), .val (.int z5_S0), .val (.int vi7), .val (.int vi8), .val (.int vi10), .val (.int vi11), .val (.int z13_S0), .val (.int vi15), .val (.int (0 : Int32)), .unset, .unset, .unset, .unset, .unset, .unset] [(.int ((p2 &&& (2147483647 : Int32)) % vi15)), (.int ((vi11 + (1 : Int32)) + z13_S0))]))
          refine own_go (fun t_ k => XS.iadd X14.here hx rfl (hb hby at_108) rfl k) ?_
          show WP p e below _ (T14.setTop (mkF m 109 #[.val (.int p1), .val (.int p2), .val (.int p3), .val (.int p4), .val (.int (0 : Int32)), .val (.int z5_S0), .val (.int vi7), .val (.int vi8), .val (.int vi10), .val (.int vi11), .val (.int z13_S0), .val (.int vi15), .val (.int (0 : Int32)), .unset, .unset, .unset, .unset, .unset, .unset] [(.int (((vi11 + (1 : Int32)) + z13_S0) + ((p2 &&& (2147483647 : Int32)) % vi15)))]))
          refine own_go (fun t_ k => XS.istore X14.here hx rfl (hb hby at_109) rfl (l' := #[.val (.int p1), .val (.int p2), .val (.int p3), .val (.int p4), .val (.int (0 : Int32)), .val (.int z5_S0), .val (.int vi7), .val (.int vi8), .val (.int vi10), .val (.int vi11), .val (.int z13_S0), .val (.int vi15), .val (.int (((vi11 + (1 : Int32)) + z13_S0) + ((p2 &&& (2147483647 : Int32)) % vi15))), .unset, .unset, .unset, .unset, .unset, .unset]) rfl k) ?_
          show WP p e below _ (T14.setTop (mkF m 111 #[.val (.int p1), .val (.int p2), .val (.int p3), .val (.int p4), .val (.int (0 : Int32)), .val (.int z5_S0), .val (.int vi7), .val (.int vi8), .val (.int vi10), .val (.int vi11), .val (.int z13_S0), .val (.int vi15), .val (.int (((vi11 + (1 : Int32)) + z13_S0) + ((p2 &&& (2147483647 : Int32)) % vi15))), .unset, .unset, .unset, .unset, .unset, .unset] []))
          refine own_go (fun t_ k => XS.goto X14.here hx rfl (pc0 := 111) (pc' := 122) rfl (hb hby at_111) (by decide) (by decide) k) ?_
          show WP p e below _ (T14.setTop (mkF m 122 #[.val (.int p1), .val (.int p2), .val (.int p3), .val (.int p4), .val (.int (0 : Int32)), .val (.int z5_S0), .val (.int vi7), .val (.int vi8), .val (.int vi10), .val (.int vi11), .val (.int z13_S0), .val (.int vi15), .val (.int (((vi11 + (1 : Int32)) + z13_S0) + ((p2 &&& (2147483647 : Int32)) % vi15))), .unset, .unset, .unset, .unset, .unset, .unset] []))
          exact J18 T14 _ X14 N14 e14 _ (by rw [if_pos hc91_16])
        · refine own_go (fun t_ k => XS.ifYes X14.here hx rfl (pc0 := 91) (pc' := 114) rfl (hb hby at_91) rfl ((if0 _ _).trans (flt hc91_16).2.2.2) (by decide) (by decide) k) ?_
          show WP p e below _ (T14.setTop (mkF m 114 #[.val (.int p1), .val (.int p2), .val (.int p3), .val (.int p4), .val (.int (0 : Int32)), .val (.int z5_S0), .val (.int vi7), .val (.int vi8), .val (.int vi10), .val (.int vi11), .val (.int z13_S0), .val (.int vi15), .val (.int (0 : Int32)), .unset, .unset, .unset, .unset, .unset, .unset] []))
          refine own_go (fun t_ k => XS.iload X14.here hx rfl (hb hby at_114) rfl k) ?_
          show WP p e below _ (T14.setTop (mkF m 116 #[.val (.int p1), .val (.int p2), .val (.int p3), .val (.int p4), .val (.int (0 : Int32)), .val (.int z5_S0), .val (.int vi7), .val (.int vi8), .val (.int vi10), .val (.int vi11), .val (.int z13_S0), .val (.int vi15), .val (.int (0 : Int32)), .unset, .unset, .unset, .unset, .unset, .unset] [(.int (0 : Int32))]))
          refine own_go (fun t_ k => XS.iconst X14.here hx rfl (hb hby at_116) k) ?_
          show WP p e below _ (T14.setTop (mkF m 117 #[.val (.int p1), .val (.int p2), .val (.int p3), .val (.int p4), .val (.int (0 : Int32)), .val (.int z5_S0), .val (.int vi7), .val (.int vi8), .val (.int vi10), .val (.int vi11), .val (.int z13_S0), .val (.int vi15), .val (.int (0 : Int32)), .unset, .unset, .unset, .unset, .unset, .unset] [(.int (2 : Int32)), (.int (0 : Int32))]))
          have hc117_41 : ¬ ((0 : Int32) = (2 : Int32)) := by decide
          refine own_go (fun t_ k => XS.icmpYes X14.here hx rfl (pc0 := 117) (pc' := 122) rfl (hb hby at_117) rfl (feq hc117_41).2 (by decide) (by decide) k) ?_
          show WP p e below _ (T14.setTop (mkF m 122 #[.val (.int p1), .val (.int p2), .val (.int p3), .val (.int p4), .val (.int (0 : Int32)), .val (.int z5_S0), .val (.int vi7), .val (.int vi8), .val (.int vi10), .val (.int vi11), .val (.int z13_S0), .val (.int vi15), .val (.int (0 : Int32)), .unset, .unset, .unset, .unset, .unset, .unset] []))
          exact J18 T14 _ X14 N14 e14 _ (by rw [if_neg hc91_16])
      by_cases hc63_12 : z5_S0 = (0 : Int32)
      · refine own_go (fun t_ k => XS.ifYes X9.here hx rfl (pc0 := 63) (pc' := 70) rfl (hb hby at_63) rfl ((if0 _ _).trans (teq hc63_12).1) (by decide) (by decide) k) ?_
        show WP p e below _ (T9.setTop (mkF m 70 #[.val (.int p1), .val (.int p2), .val (.int p3), .val (.int p4), .val (.int (0 : Int32)), .val (.int z5_S0), .val (.int vi7), .val (.int vi8), .val (.int vi10), .val (.int vi11), .unset, .unset, .unset, .unset, .unset, .unset, .unset, .unset, .unset] []))
        refine own_go (fun t_ k => XS.iconst X9.here hx rfl (hb hby at_70) k) ?_
        show WP p e below _ (T9.setTop (mkF m 71 #[.val (.int p1), .val (.int p2), .val (.int p3), .val (.int p4), .val (.int (0 : Int32)), .val (.int z5_S0), .val (.int vi7), .val (.int vi8), .val (.int vi10), .val (.int vi11), .unset, .unset, .unset, .unset, .unset, .unset, .unset, .unset, .unset] [(.int (1 : Int32))]))
        exact J14 T9 _ X9 N9 e9 _ (by rw [if_pos hc63_12])
      · refine own_go (fun t_ k => XS.ifNo X9.here hx rfl (hb hby at_63) rfl ((if0 _ _).trans (feq hc63_12).1) k) ?_
        show WP p e below _ (T9.setTop (mkF m 66 #[.val (.int p1), .val (.int p2), .val (.int p3), .val (.int p4), .val (.int (0 : Int32)), .val (.int z5_S0), .val (.int vi7), .val (.int vi8), .val (.int vi10), .val (.int vi11), .unset, .unset, .unset, .unset, .unset, .unset, .unset, .unset, .unset] []))
        refine own_go (fun t_ k => XS.iconst X9.here hx rfl (hb hby at_66) k) ?_
        show WP p e below _ (T9.setTop (mkF m 67 #[.val (.int p1), .val (.int p2), .val (.int p3), .val (.int p4), .val (.int (0 : Int32)), .val (.int z5_S0), .val (.int vi7), .val (.int vi8), .val (.int vi10), .val (.int vi11), .unset, .unset, .unset, .unset, .unset, .unset, .unset, .unset, .unset] [(.int (0 : Int32))]))
        refine own_go (fun t_ k => XS.goto X9.here hx rfl (pc0 := 67) (pc' := 71) rfl (hb hby at_67) (by decide) (by decide) k) ?_
        show WP p e below _ (T9.setTop (mkF m 71 #[.val (.int p1), .val (.int p2), .val (.int p3), .val (.int p4), .val (.int (0 : Int32)), .val (.int z5_S0), .val (.int vi7), .val (.int vi8), .val (.int vi10), .val (.int vi11), .unset, .unset, .unset, .unset, .unset, .unset, .unset, .unset, .unset] [(.int (0 : Int32))]))
        exact J14 T9 _ X9 N9 e9 _ (by rw [if_neg hc63_12])
    by_cases hc12_4 : (p4 &&& (4 : Int32)) = (0 : Int32)
    · refine own_go (fun t_ k => XS.ifYes X1.here hx rfl (pc0 := 12) (pc' := 19) rfl (hb hby at_12) rfl ((if0 _ _).trans (teq hc12_4).1) (by decide) (by decide) k) ?_
      show WP p e below _ (T1.setTop (mkF m 19 #[.val (.int p1), .val (.int p2), .val (.int p3), .val (.int p4), .val (.int (0 : Int32)), .unset, .unset, .unset, .unset, .unset, .unset, .unset, .unset, .unset, .unset, .unset, .unset, .unset, .unset] []))
      refine own_go (fun t_ k => XS.iconst X1.here hx rfl (hb hby at_19) k) ?_
      show WP p e below _ (T1.setTop (mkF m 20 #[.val (.int p1), .val (.int p2), .val (.int p3), .val (.int p4), .val (.int (0 : Int32)), .unset, .unset, .unset, .unset, .unset, .unset, .unset, .unset, .unset, .unset, .unset, .unset, .unset, .unset] [(.int (0 : Int32))]))
      exact J6 T1 _ X1 N1 e1 _ (by rw [if_pos hc12_4])
    · refine own_go (fun t_ k => XS.ifNo X1.here hx rfl (hb hby at_12) rfl ((if0 _ _).trans (feq hc12_4).1) k) ?_
      show WP p e below _ (T1.setTop (mkF m 15 #[.val (.int p1), .val (.int p2), .val (.int p3), .val (.int p4), .val (.int (0 : Int32)), .unset, .unset, .unset, .unset, .unset, .unset, .unset, .unset, .unset, .unset, .unset, .unset, .unset, .unset] []))
      refine own_go (fun t_ k => XS.iconst X1.here hx rfl (hb hby at_15) k) ?_
      show WP p e below _ (T1.setTop (mkF m 16 #[.val (.int p1), .val (.int p2), .val (.int p3), .val (.int p4), .val (.int (0 : Int32)), .unset, .unset, .unset, .unset, .unset, .unset, .unset, .unset, .unset, .unset, .unset, .unset, .unset, .unset] [(.int (1 : Int32))]))
      refine own_go (fun t_ k => XS.goto X1.here hx rfl (pc0 := 16) (pc' := 20) rfl (hb hby at_16) (by decide) (by decide) k) ?_
      show WP p e below _ (T1.setTop (mkF m 20 #[.val (.int p1), .val (.int p2), .val (.int p3), .val (.int p4), .val (.int (0 : Int32)), .unset, .unset, .unset, .unset, .unset, .unset, .unset, .unset, .unset, .unset, .unset, .unset, .unset, .unset] [(.int (1 : Int32))]))
      exact J6 T1 _ X1 N1 e1 _ (by rw [if_neg hc12_4])
  · subst hs3
    show WP p e below _ (T1.setTop (mkF m 9 #[.val (.int p1), .val (.int p2), .val (.int p3), .val (.int p4), .val (.int (1 : Int32)), .unset, .unset, .unset, .unset, .unset, .unset, .unset, .unset, .unset, .unset, .unset, .unset, .unset, .unset] []))
    refine own_go (fun t_ k => XS.iloadN X1.here hx rfl (hb hby at_9) rfl k) ?_
    show WP p e below _ (T1.setTop (mkF m 10 #[.val (.int p1), .val (.int p2), .val (.int p3), .val (.int p4), .val (.int (1 : Int32)), .unset, .unset, .unset, .unset, .unset, .unset, .unset, .unset, .unset, .unset, .unset, .unset, .unset, .unset] [(.int p4)]))
    refine own_go (fun t_ k => XS.iconst X1.here hx rfl (hb hby at_10) k) ?_
    show WP p e below _ (T1.setTop (mkF m 11 #[.val (.int p1), .val (.int p2), .val (.int p3), .val (.int p4), .val (.int (1 : Int32)), .unset, .unset, .unset, .unset, .unset, .unset, .unset, .unset, .unset, .unset, .unset, .unset, .unset, .unset] [(.int (4 : Int32)), (.int p4)]))
    refine own_go (fun t_ k => XS.iand X1.here hx rfl (hb hby at_11) rfl k) ?_
    show WP p e below _ (T1.setTop (mkF m 12 #[.val (.int p1), .val (.int p2), .val (.int p3), .val (.int p4), .val (.int (1 : Int32)), .unset, .unset, .unset, .unset, .unset, .unset, .unset, .unset, .unset, .unset, .unset, .unset, .unset, .unset] [(.int (p4 &&& (4 : Int32)))]))
    have J44 : ∀ (T44 : State) (ls44 : List Loc) (X44 : Stand p l e room_1 s m #[(.int p1), (.int p2), (.int p3), (.int p4)] below meth c T44 ls44 0 0) (N44 : Fr n0 ls44) (e44 : T44.heap = h0) (z43_S0 : Int32) (hz43_S0 : z43_S0 = (if (p4 &&& (4 : Int32)) = (0 : Int32) then (0 : Int32) else (1 : Int32))), WP p e below (GG (Q0 n0) s room_1.cells room_1.slots) (T44.setTop (mkF m 20 #[.val (.int p1), .val (.int p2), .val (.int p3), .val (.int p4), .val (.int (1 : Int32)), .unset, .unset, .unset, .unset, .unset, .unset, .unset, .unset, .unset, .unset, .unset, .unset, .unset, .unset] [(.int z43_S0)])) := by
      intro T44 ls44 X44 N44 e44 z43_S0 hz43_S0
      show WP p e below _ (T44.setTop (mkF m 20 #[.val (.int p1), .val (.int p2), .val (.int p3), .val (.int p4), .val (.int (1 : Int32)), .unset, .unset, .unset, .unset, .unset, .unset, .unset, .unset, .unset, .unset, .unset, .unset, .unset, .unset] [(.int z43_S0)]))
      refine own_go (fun t_ k => XS.istore X44.here hx rfl (hb hby at_20) rfl (l' := #[.val (.int p1), .val (.int p2), .val (.int p3), .val (.int p4), .val (.int (1 : Int32)), .val (.int z43_S0), .unset, .unset, .unset, .unset, .unset, .unset, .unset, .unset, .unset, .unset, .unset, .unset, .unset]) rfl k) ?_
      show WP p e below _ (T44.setTop (mkF m 22 #[.val (.int p1), .val (.int p2), .val (.int p3), .val (.int p4), .val (.int (1 : Int32)), .val (.int z43_S0), .unset, .unset, .unset, .unset, .unset, .unset, .unset, .unset, .unset, .unset, .unset, .unset, .unset] []))
      refine own_go (fun t_ k => XS.iconst X44.here hx rfl (hb hby at_22) k) ?_
      show WP p e below _ (T44.setTop (mkF m 23 #[.val (.int p1), .val (.int p2), .val (.int p3), .val (.int p4), .val (.int (1 : Int32)), .val (.int z43_S0), .unset, .unset, .unset, .unset, .unset, .unset, .unset, .unset, .unset, .unset, .unset, .unset, .unset] [(.int (1 : Int32))]))
      refine own_go (fun t_ k => XS.iloadN X44.here hx rfl (hb hby at_23) rfl k) ?_
      show WP p e below _ (T44.setTop (mkF m 24 #[.val (.int p1), .val (.int p2), .val (.int p3), .val (.int p4), .val (.int (1 : Int32)), .val (.int z43_S0), .unset, .unset, .unset, .unset, .unset, .unset, .unset, .unset, .unset, .unset, .unset, .unset, .unset] [(.int p3), (.int (1 : Int32))]))
      refine own_go (fun t_ k => XS.iconst X44.here hx rfl (hb hby at_24) k) ?_
      show WP p e below _ (T44.setTop (mkF m 25 #[.val (.int p1), .val (.int p2), .val (.int p3), .val (.int p4), .val (.int (1 : Int32)), .val (.int z43_S0), .unset, .unset, .unset, .unset, .unset, .unset, .unset, .unset, .unset, .unset, .unset, .unset, .unset] [(.int (3 : Int32)), (.int p3), (.int (1 : Int32))]))
      refine own_go (fun t_ k => XS.iand X44.here hx rfl (hb hby at_25) rfl k) ?_
      show WP p e below _ (T44.setTop (mkF m 26 #[.val (.int p1), .val (.int p2), .val (.int p3), .val (.int p4), .val (.int (1 : Int32)), .val (.int z43_S0), .unset, .unset, .unset, .unset, .unset, .unset, .unset, .unset, .unset, .unset, .unset, .unset, .unset] [(.int (p3 &&& (3 : Int32))), (.int (1 : Int32))]))
      refine own_go (fun t_ k => XS.iadd X44.here hx rfl (hb hby at_26) rfl k) ?_
      show WP p e below _ (T44.setTop (mkF m 27 #[.val (.int p1), .val (.int p2), .val (.int p3), .val (.int p4), .val (.int (1 : Int32)), .val (.int z43_S0), .unset, .unset, .unset, .unset, .unset, .unset, .unset, .unset, .unset, .unset, .unset, .unset, .unset] [(.int ((1 : Int32) + (p3 &&& (3 : Int32))))]))
      refine own_go (fun t_ k => XS.istore X44.here hx rfl (hb hby at_27) rfl (l' := #[.val (.int p1), .val (.int p2), .val (.int p3), .val (.int p4), .val (.int (1 : Int32)), .val (.int z43_S0), .val (.int ((1 : Int32) + (p3 &&& (3 : Int32)))), .unset, .unset, .unset, .unset, .unset, .unset, .unset, .unset, .unset, .unset, .unset, .unset]) rfl k) ?_
      show WP p e below _ (T44.setTop (mkF m 29 #[.val (.int p1), .val (.int p2), .val (.int p3), .val (.int p4), .val (.int (1 : Int32)), .val (.int z43_S0), .val (.int ((1 : Int32) + (p3 &&& (3 : Int32)))), .unset, .unset, .unset, .unset, .unset, .unset, .unset, .unset, .unset, .unset, .unset, .unset] []))
      generalize he45 : ((1 : Int32) + (p3 &&& (3 : Int32))) = vi45
      show WP p e below _ (T44.setTop (mkF m 29 #[.val (.int p1), .val (.int p2), .val (.int p3), .val (.int p4), .val (.int (1 : Int32)), .val (.int z43_S0), .val (.int vi45), .unset, .unset, .unset, .unset, .unset, .unset, .unset, .unset, .unset, .unset, .unset, .unset] []))
      refine own_go (fun t_ k => XS.iconst X44.here hx rfl (hb hby at_29) k) ?_
      show WP p e below _ (T44.setTop (mkF m 30 #[.val (.int p1), .val (.int p2), .val (.int p3), .val (.int p4), .val (.int (1 : Int32)), .val (.int z43_S0), .val (.int vi45), .unset, .unset, .unset, .unset, .unset, .unset, .unset, .unset, .unset, .unset, .unset, .unset] [(.int (1 : Int32))]))
      refine own_go (fun t_ k => XS.iloadN X44.here hx rfl (hb hby at_30) rfl k) ?_
      show WP p e below _ (T44.setTop (mkF m 31 #[.val (.int p1), .val (.int p2), .val (.int p3), .val (.int p4), .val (.int (1 : Int32)), .val (.int z43_S0), .val (.int vi45), .unset, .unset, .unset, .unset, .unset, .unset, .unset, .unset, .unset, .unset, .unset, .unset] [(.int p3), (.int (1 : Int32))]))
      refine own_go (fun t_ k => XS.iconst X44.here hx rfl (hb hby at_31) k) ?_
      show WP p e below _ (T44.setTop (mkF m 32 #[.val (.int p1), .val (.int p2), .val (.int p3), .val (.int p4), .val (.int (1 : Int32)), .val (.int z43_S0), .val (.int vi45), .unset, .unset, .unset, .unset, .unset, .unset, .unset, .unset, .unset, .unset, .unset, .unset] [(.int (2 : Int32)), (.int p3), (.int (1 : Int32))]))
      refine own_go (fun t_ k => XS.iushr X44.here hx rfl (hb hby at_32) rfl k) ?_
      show WP p e below _ (T44.setTop (mkF m 33 #[.val (.int p1), .val (.int p2), .val (.int p3), .val (.int p4), .val (.int (1 : Int32)), .val (.int z43_S0), .val (.int vi45), .unset, .unset, .unset, .unset, .unset, .unset, .unset, .unset, .unset, .unset, .unset, .unset] [(.int ((p3.toUInt32 >>> ((2 : Int32) &&& 31).toUInt32).toInt32)), (.int (1 : Int32))]))
      refine own_go (fun t_ k => XS.iconst X44.here hx rfl (hb hby at_33) k) ?_
      show WP p e below _ (T44.setTop (mkF m 34 #[.val (.int p1), .val (.int p2), .val (.int p3), .val (.int p4), .val (.int (1 : Int32)), .val (.int z43_S0), .val (.int vi45), .unset, .unset, .unset, .unset, .unset, .unset, .unset, .unset, .unset, .unset, .unset, .unset] [(.int (3 : Int32)), (.int ((p3.toUInt32 >>> ((2 : Int32) &&& 31).toUInt32).toInt32)), (.int (1 : Int32))]))
      refine own_go (fun t_ k => XS.iand X44.here hx rfl (hb hby at_34) rfl k) ?_
      show WP p e below _ (T44.setTop (mkF m 35 #[.val (.int p1), .val (.int p2), .val (.int p3), .val (.int p4), .val (.int (1 : Int32)), .val (.int z43_S0), .val (.int vi45), .unset, .unset, .unset, .unset, .unset, .unset, .unset, .unset, .unset, .unset, .unset, .unset] [(.int (((p3.toUInt32 >>> ((2 : Int32) &&& 31).toUInt32).toInt32) &&& (3 : Int32))), (.int (1 : Int32))]))
      refine own_go (fun t_ k => XS.iadd X44.here hx rfl (hb hby at_35) rfl k) ?_
      show WP p e below _ (T44.setTop (mkF m 36 #[.val (.int p1), .val (.int p2), .val (.int p3), .val (.int p4), .val (.int (1 : Int32)), .val (.int z43_S0), .val (.int vi45), .unset, .unset, .unset, .unset, .unset, .unset, .unset, .unset, .unset, .unset, .unset, .unset] [(.int ((1 : Int32) + (((p3.toUInt32 >>> ((2 : Int32) &&& 31).toUInt32).toInt32) &&& (3 : Int32))))]))
      refine own_go (fun t_ k => XS.istore X44.here hx rfl (hb hby at_36) rfl (l' := #[.val (.int p1), .val (.int p2), .val (.int p3), .val (.int p4), .val (.int (1 : Int32)), .val (.int z43_S0), .val (.int vi45), .val (.int ((1 : Int32) + (((p3.toUInt32 >>> ((2 : Int32) &&& 31).toUInt32).toInt32) &&& (3 : Int32)))), .unset, .unset, .unset, .unset, .unset, .unset, .unset, .unset, .unset, .unset, .unset]) rfl k) ?_
      show WP p e below _ (T44.setTop (mkF m 38 #[.val (.int p1), .val (.int p2), .val (.int p3), .val (.int p4), .val (.int (1 : Int32)), .val (.int z43_S0), .val (.int vi45), .val (.int ((1 : Int32) + (((p3.toUInt32 >>> ((2 : Int32) &&& 31).toUInt32).toInt32) &&& (3 : Int32)))), .unset, .unset, .unset, .unset, .unset, .unset, .unset, .unset, .unset, .unset, .unset] []))
      generalize he46 : ((1 : Int32) + (((p3.toUInt32 >>> ((2 : Int32) &&& 31).toUInt32).toInt32) &&& (3 : Int32))) = vi46
      show WP p e below _ (T44.setTop (mkF m 38 #[.val (.int p1), .val (.int p2), .val (.int p3), .val (.int p4), .val (.int (1 : Int32)), .val (.int z43_S0), .val (.int vi45), .val (.int vi46), .unset, .unset, .unset, .unset, .unset, .unset, .unset, .unset, .unset, .unset, .unset] []))
      refine own_go (fun t_ k => XS.iloadN X44.here hx rfl (hb hby at_38) rfl k) ?_
      show WP p e below _ (T44.setTop (mkF m 39 #[.val (.int p1), .val (.int p2), .val (.int p3), .val (.int p4), .val (.int (1 : Int32)), .val (.int z43_S0), .val (.int vi45), .val (.int vi46), .unset, .unset, .unset, .unset, .unset, .unset, .unset, .unset, .unset, .unset, .unset] [(.int p1)]))
      refine own_go (fun t_ k => X44.ldcInt hx hown (mvT hZ (hw _ (List.mem_of_getElem? (i := 4) rfl))) (g := (mkF m 39 #[.val (.int p1), .val (.int p2), .val (.int p3), .val (.int p4), .val (.int (1 : Int32)), .val (.int z43_S0), .val (.int vi45), .val (.int vi46), .unset, .unset, .unset, .unset, .unset, .unset, .unset, .unset, .unset, .unset, .unset] [(.int p1)])) rfl (hb hby at_39) _ k) ?_
      show WP p e below _ (T44.setTop (mkF m 41 #[.val (.int p1), .val (.int p2), .val (.int p3), .val (.int p4), .val (.int (1 : Int32)), .val (.int z43_S0), .val (.int vi45), .val (.int vi46), .unset, .unset, .unset, .unset, .unset, .unset, .unset, .unset, .unset, .unset, .unset] [(.int (65535 : Int32)), (.int p1)]))
      refine own_go (fun t_ k => XS.iand X44.here hx rfl (hb hby at_41) rfl k) ?_
      show WP p e below _ (T44.setTop (mkF m 42 #[.val (.int p1), .val (.int p2), .val (.int p3), .val (.int p4), .val (.int (1 : Int32)), .val (.int z43_S0), .val (.int vi45), .val (.int vi46), .unset, .unset, .unset, .unset, .unset, .unset, .unset, .unset, .unset, .unset, .unset] [(.int (p1 &&& (65535 : Int32)))]))
      refine own_go (fun t_ k => X44.ldcInt hx hown (mvT hZ (hw _ (List.mem_of_getElem? (i := 5) rfl))) (g := (mkF m 42 #[.val (.int p1), .val (.int p2), .val (.int p3), .val (.int p4), .val (.int (1 : Int32)), .val (.int z43_S0), .val (.int vi45), .val (.int vi46), .unset, .unset, .unset, .unset, .unset, .unset, .unset, .unset, .unset, .unset, .unset] [(.int (p1 &&& (65535 : Int32)))])) rfl (hb hby at_42) _ k) ?_
      show WP p e below _ (T44.setTop (mkF m 44 #[.val (.int p1), .val (.int p2), .val (.int p3), .val (.int p4), .val (.int (1 : Int32)), .val (.int z43_S0), .val (.int vi45), .val (.int vi46), .unset, .unset, .unset, .unset, .unset, .unset, .unset, .unset, .unset, .unset, .unset] [(.int (65536 : Int32)), (.int (p1 &&& (65535 : Int32)))]))
      refine own_go (fun t_ k => XS.iload X44.here hx rfl (hb hby at_44) rfl k) ?_
      show WP p e below _ (T44.setTop (mkF m 46 #[.val (.int p1), .val (.int p2), .val (.int p3), .val (.int p4), .val (.int (1 : Int32)), .val (.int z43_S0), .val (.int vi45), .val (.int vi46), .unset, .unset, .unset, .unset, .unset, .unset, .unset, .unset, .unset, .unset, .unset] [(.int vi45), (.int (65536 : Int32)), (.int (p1 &&& (65535 : Int32)))]))
      refine own_go (fun t_ k => XS.isub X44.here hx rfl (hb hby at_46) rfl k) ?_
      show WP p e below _ (T44.setTop (mkF m 47 #[.val (.int p1), .val (.int p2), .val (.int p3), .val (.int p4), .val (.int (1 : Int32)), .val (.int z43_S0), .val (.int vi45), .val (.int vi46), .unset, .unset, .unset, .unset, .unset, .unset, .unset, .unset, .unset, .unset, .unset] [(.int ((65536 : Int32) - vi45)), (.int (p1 &&& (65535 : Int32)))]))
      obtain ⟨_, _, ⟨T47, L47, k47, n47⟩, -, X47, ⟨Lc47, hQ47, l47, y47, z47⟩, st47⟩ := Jvm.LawKit.callS X44 hx (y := (⟨"java/lang/Math", "min", "(II)I"⟩ : MethodName)) hown (mvT hZ (hw _ (List.mem_of_getElem? (i := 0) rfl))) (mvT hZ (hw _ (List.mem_of_getElem? (i := 1) rfl))) (mvT hZ (hw _ (List.mem_of_getElem? (i := 2) rfl))) (mvT hZ (hw _ (List.mem_of_getElem? (i := 3) rfl))) (by decide) (backOf (W := 0) (rm1 l Z a0 hw [] (p1 &&& (65535 : Int32)) ((65536 : Int32) - vi45) h0 n0) hZ (hw _ (List.mem_of_getElem? (i := 3) rfl)) (hw _ (List.mem_of_getElem? (i := 2) rfl)) (by decide) (by decide)) (g := (mkF m 47 #[.val (.int p1), .val (.int p2), .val (.int p3), .val (.int p4), .val (.int (1 : Int32)), .val (.int z43_S0), .val (.int vi45), .val (.int vi46), .unset, .unset, .unset, .unset, .unset, .unset, .unset, .unset, .unset, .unset, .unset] [(.int ((65536 : Int32) - vi45)), (.int (p1 &&& (65535 : Int32)))])) rfl (by rw [hml]; rfl) (argsL := [(.int (p1 &&& (65535 : Int32))), (.int ((65536 : Int32) - vi45))]) (rest := []) (lenOf pd_1 rfl) rfl (by show 2 * 0 + _ ≤ _; exact Nat.le_of_eq rfl) (hb hby at_47) (fun _ _ => ⟨rfl, e44, (by decide : 0 + 0 ≤ _), (by decide : 0 + 0 ≤ _)⟩)
      dsimp only [Pt.U, Pt.locs, Pt.cells, Pt.slots] at X47 l47 y47 z47 st47 hQ47
      subst l47 y47 z47
      obtain ⟨rfl, N47q, e47⟩ := hQ47
      have N47 := Fr.app N44 N47q
      replace X47 : Stand p l e room_1 s m _ below meth c T47 _ 0 0 := X47
      refine own_go st47 ?_
      show WP p e below _ (T47.setTop (mkF m 50 #[.val (.int p1), .val (.int p2), .val (.int p3), .val (.int p4), .val (.int (1 : Int32)), .val (.int z43_S0), .val (.int vi45), .val (.int vi46), .unset, .unset, .unset, .unset, .unset, .unset, .unset, .unset, .unset, .unset, .unset] [(.int (f1 (p1 &&& (65535 : Int32)) ((65536 : Int32) - vi45)))]))
      generalize he48 : (f1 (p1 &&& (65535 : Int32)) ((65536 : Int32) - vi45)) = vi48
      show WP p e below _ (T47.setTop (mkF m 50 #[.val (.int p1), .val (.int p2), .val (.int p3), .val (.int p4), .val (.int (1 : Int32)), .val (.int z43_S0), .val (.int vi45), .val (.int vi46), .unset, .unset, .unset, .unset, .unset, .unset, .unset, .unset, .unset, .unset, .unset] [(.int vi48)]))
      refine own_go (fun t_ k => XS.istore X47.here hx rfl (hb hby at_50) rfl (l' := #[.val (.int p1), .val (.int p2), .val (.int p3), .val (.int p4), .val (.int (1 : Int32)), .val (.int z43_S0), .val (.int vi45), .val (.int vi46), .val (.int vi48), .unset, .unset, .unset, .unset, .unset, .unset, .unset, .unset, .unset, .unset]) rfl k) ?_
      show WP p e below _ (T47.setTop (mkF m 52 #[.val (.int p1), .val (.int p2), .val (.int p3), .val (.int p4), .val (.int (1 : Int32)), .val (.int z43_S0), .val (.int vi45), .val (.int vi46), .val (.int vi48), .unset, .unset, .unset, .unset, .unset, .unset, .unset, .unset, .unset, .unset] []))
      refine own_go (fun t_ k => XS.iload X47.here hx rfl (hb hby at_52) rfl k) ?_
      show WP p e below _ (T47.setTop (mkF m 54 #[.val (.int p1), .val (.int p2), .val (.int p3), .val (.int p4), .val (.int (1 : Int32)), .val (.int z43_S0), .val (.int vi45), .val (.int vi46), .val (.int vi48), .unset, .unset, .unset, .unset, .unset, .unset, .unset, .unset, .unset, .unset] [(.int vi48)]))
      refine own_go (fun t_ k => XS.iload X47.here hx rfl (hb hby at_54) rfl k) ?_
      show WP p e below _ (T47.setTop (mkF m 56 #[.val (.int p1), .val (.int p2), .val (.int p3), .val (.int p4), .val (.int (1 : Int32)), .val (.int z43_S0), .val (.int vi45), .val (.int vi46), .val (.int vi48), .unset, .unset, .unset, .unset, .unset, .unset, .unset, .unset, .unset, .unset] [(.int vi45), (.int vi48)]))
      refine own_go (fun t_ k => XS.iadd X47.here hx rfl (hb hby at_56) rfl k) ?_
      show WP p e below _ (T47.setTop (mkF m 57 #[.val (.int p1), .val (.int p2), .val (.int p3), .val (.int p4), .val (.int (1 : Int32)), .val (.int z43_S0), .val (.int vi45), .val (.int vi46), .val (.int vi48), .unset, .unset, .unset, .unset, .unset, .unset, .unset, .unset, .unset, .unset] [(.int (vi48 + vi45))]))
      refine own_go (fun t_ k => XS.iconst X47.here hx rfl (hb hby at_57) k) ?_
      show WP p e below _ (T47.setTop (mkF m 58 #[.val (.int p1), .val (.int p2), .val (.int p3), .val (.int p4), .val (.int (1 : Int32)), .val (.int z43_S0), .val (.int vi45), .val (.int vi46), .val (.int vi48), .unset, .unset, .unset, .unset, .unset, .unset, .unset, .unset, .unset, .unset] [(.int (1 : Int32)), (.int (vi48 + vi45))]))
      refine own_go (fun t_ k => XS.isub X47.here hx rfl (hb hby at_58) rfl k) ?_
      show WP p e below _ (T47.setTop (mkF m 59 #[.val (.int p1), .val (.int p2), .val (.int p3), .val (.int p4), .val (.int (1 : Int32)), .val (.int z43_S0), .val (.int vi45), .val (.int vi46), .val (.int vi48), .unset, .unset, .unset, .unset, .unset, .unset, .unset, .unset, .unset, .unset] [(.int ((vi48 + vi45) - (1 : Int32)))]))
      refine own_go (fun t_ k => XS.istore X47.here hx rfl (hb hby at_59) rfl (l' := #[.val (.int p1), .val (.int p2), .val (.int p3), .val (.int p4), .val (.int (1 : Int32)), .val (.int z43_S0), .val (.int vi45), .val (.int vi46), .val (.int vi48), .val (.int ((vi48 + vi45) - (1 : Int32))), .unset, .unset, .unset, .unset, .unset, .unset, .unset, .unset, .unset]) rfl k) ?_
      show WP p e below _ (T47.setTop (mkF m 61 #[.val (.int p1), .val (.int p2), .val (.int p3), .val (.int p4), .val (.int (1 : Int32)), .val (.int z43_S0), .val (.int vi45), .val (.int vi46), .val (.int vi48), .val (.int ((vi48 + vi45) - (1 : Int32))), .unset, .unset, .unset, .unset, .unset, .unset, .unset, .unset, .unset] []))
      generalize he49 : ((vi48 + vi45) - (1 : Int32)) = vi49
      show WP p e below _ (T47.setTop (mkF m 61 #[.val (.int p1), .val (.int p2), .val (.int p3), .val (.int p4), .val (.int (1 : Int32)), .val (.int z43_S0), .val (.int vi45), .val (.int vi46), .val (.int vi48), .val (.int vi49), .unset, .unset, .unset, .unset, .unset, .unset, .unset, .unset, .unset] []))
      refine own_go (fun t_ k => XS.iload X47.here hx rfl (hb hby at_61) rfl k) ?_
      show WP p e below _ (T47.setTop (mkF m 63 #[.val (.int p1), .val (.int p2), .val (.int p3), .val (.int p4), .val (.int (1 : Int32)), .val (.int z43_S0), .val (.int vi45), .val (.int vi46), .val (.int vi48), .val (.int vi49), .unset, .unset, .unset, .unset, .unset, .unset, .unset, .unset, .unset] [(.int z43_S0)]))
      have J52 : ∀ (T52 : State) (ls52 : List Loc) (X52 : Stand p l e room_1 s m #[(.int p1), (.int p2), (.int p3), (.int p4)] below meth c T52 ls52 0 0) (N52 : Fr n0 ls52) (e52 : T52.heap = h0) (z51_S0 : Int32) (hz51_S0 : z51_S0 = (if z43_S0 = (0 : Int32) then (1 : Int32) else (0 : Int32))), WP p e below (GG (Q0 n0) s room_1.cells room_1.slots) (T52.setTop (mkF m 71 #[.val (.int p1), .val (.int p2), .val (.int p3), .val (.int p4), .val (.int (1 : Int32)), .val (.int z43_S0), .val (.int vi45), .val (.int vi46), .val (.int vi48), .val (.int vi49), .unset, .unset, .unset, .unset, .unset, .unset, .unset, .unset, .unset] [(.int z51_S0)])) := by
        intro T52 ls52 X52 N52 e52 z51_S0 hz51_S0
        show WP p e below _ (T52.setTop (mkF m 71 #[.val (.int p1), .val (.int p2), .val (.int p3), .val (.int p4), .val (.int (1 : Int32)), .val (.int z43_S0), .val (.int vi45), .val (.int vi46), .val (.int vi48), .val (.int vi49), .unset, .unset, .unset, .unset, .unset, .unset, .unset, .unset, .unset] [(.int z51_S0)]))
        refine own_go (fun t_ k => XS.istore X52.here hx rfl (hb hby at_71) rfl (l' := #[.val (.int p1), .val (.int p2), .val (.int p3), .val (.int p4), .val (.int (1 : Int32)), .val (.int z43_S0), .val (.int vi45), .val (.int vi46), .val (.int vi48), .val (.int vi49), .val (.int z51_S0), .unset, .unset, .unset, .unset, .unset, .unset, .unset, .unset]) rfl k) ?_
        show WP p e below _ (T52.setTop (mkF m 73 #[.val (.int p1), .val (.int p2), .val (.int p3), .val (.int p4), .val (.int (1 : Int32)), .val (.int z43_S0), .val (.int vi45), .val (.int vi46), .val (.int vi48), .val (.int vi49), .val (.int z51_S0), .unset, .unset, .unset, .unset, .unset, .unset, .unset, .unset] []))
        refine own_go (fun t_ k => X52.ldcInt hx hown (mvT hZ (hw _ (List.mem_of_getElem? (i := 5) rfl))) (g := (mkF m 73 #[.val (.int p1), .val (.int p2), .val (.int p3), .val (.int p4), .val (.int (1 : Int32)), .val (.int z43_S0), .val (.int vi45), .val (.int vi46), .val (.int vi48), .val (.int vi49), .val (.int z51_S0), .unset, .unset, .unset, .unset, .unset, .unset, .unset, .unset] [])) rfl (hb hby at_73) _ k) ?_
        show WP p e below _ (T52.setTop (mkF m 75 #[.val (.int p1), .val (.int p2), .val (.int p3), .val (.int p4), .val (.int (1 : Int32)), .val (.int z43_S0), .val (.int vi45), .val (.int vi46), .val (.int vi48), .val (.int vi49), .val (.int z51_S0), .unset, .unset, .unset, .unset, .unset, .unset, .unset, .unset] [(.int (65536 : Int32))]))
        refine own_go (fun t_ k => XS.iload X52.here hx rfl (hb hby at_75) rfl k) ?_
        show WP p e below _ (T52.setTop (mkF m 77 #[.val (.int p1), .val (.int p2), .val (.int p3), .val (.int p4), .val (.int (1 : Int32)), .val (.int z43_S0), .val (.int vi45), .val (.int vi46), .val (.int vi48), .val (.int vi49), .val (.int z51_S0), .unset, .unset, .unset, .unset, .unset, .unset, .unset, .unset] [(.int vi46), (.int (65536 : Int32))]))
        refine own_go (fun t_ k => XS.isub X52.here hx rfl (hb hby at_77) rfl k) ?_
        show WP p e below _ (T52.setTop (mkF m 78 #[.val (.int p1), .val (.int p2), .val (.int p3), .val (.int p4), .val (.int (1 : Int32)), .val (.int z43_S0), .val (.int vi45), .val (.int vi46), .val (.int vi48), .val (.int vi49), .val (.int z51_S0), .unset, .unset, .unset, .unset, .unset, .unset, .unset, .unset] [(.int ((65536 : Int32) - vi46))]))
        refine own_go (fun t_ k => XS.iload X52.here hx rfl (hb hby at_78) rfl k) ?_
        show WP p e below _ (T52.setTop (mkF m 80 #[.val (.int p1), .val (.int p2), .val (.int p3), .val (.int p4), .val (.int (1 : Int32)), .val (.int z43_S0), .val (.int vi45), .val (.int vi46), .val (.int vi48), .val (.int vi49), .val (.int z51_S0), .unset, .unset, .unset, .unset, .unset, .unset, .unset, .unset] [(.int vi49), (.int ((65536 : Int32) - vi46))]))
        refine own_go (fun t_ k => XS.isub X52.here hx rfl (hb hby at_80) rfl k) ?_
        show WP p e below _ (T52.setTop (mkF m 81 #[.val (.int p1), .val (.int p2), .val (.int p3), .val (.int p4), .val (.int (1 : Int32)), .val (.int z43_S0), .val (.int vi45), .val (.int vi46), .val (.int vi48), .val (.int vi49), .val (.int z51_S0), .unset, .unset, .unset, .unset, .unset, .unset, .unset, .unset] [(.int (((65536 : Int32) - vi46) - vi49))]))
        refine own_go (fun t_ k => XS.iload X52.here hx rfl (hb hby at_81) rfl k) ?_
        show WP p e below _ (T52.setTop (mkF m 83 #[.val (.int p1), .val (.int p2), .val (.int p3), .val (.int p4), .val (.int (1 : Int32)), .val (.int z43_S0), .val (.int vi45), .val (.int vi46), .val (.int vi48), .val (.int vi49), .val (.int z51_S0), .unset, .unset, .unset, .unset, .unset, .unset, .unset, .unset] [(.int z51_S0), (.int (((65536 : Int32) - vi46) - vi49))]))
        refine own_go (fun t_ k => XS.isub X52.here hx rfl (hb hby at_83) rfl k) ?_
        show WP p e below _ (T52.setTop (mkF m 84 #[.val (.int p1), .val (.int p2), .val (.int p3), .val (.int p4), .val (.int (1 : Int32)), .val (.int z43_S0), .val (.int vi45), .val (.int vi46), .val (.int vi48), .val (.int vi49), .val (.int z51_S0), .unset, .unset, .unset, .unset, .unset, .unset, .unset, .unset] [(.int ((((65536 : Int32) - vi46) - vi49) - z51_S0))]))
        refine own_go (fun t_ k => XS.istore X52.here hx rfl (hb hby at_84) rfl (l' := #[.val (.int p1), .val (.int p2), .val (.int p3), .val (.int p4), .val (.int (1 : Int32)), .val (.int z43_S0), .val (.int vi45), .val (.int vi46), .val (.int vi48), .val (.int vi49), .val (.int z51_S0), .val (.int ((((65536 : Int32) - vi46) - vi49) - z51_S0)), .unset, .unset, .unset, .unset, .unset, .unset, .unset]) rfl k) ?_
        show WP p e below _ (T52.setTop (mkF m 86 #[.val (.int p1), .val (.int p2), .val (.int p3), .val (.int p4), .val (.int (1 : Int32)), .val (.int z43_S0), .val (.int vi45), .val (.int vi46), .val (.int vi48), .val (.int vi49), .val (.int z51_S0), .val (.int ((((65536 : Int32) - vi46) - vi49) - z51_S0)), .unset, .unset, .unset, .unset, .unset, .unset, .unset] []))
        generalize he53 : ((((65536 : Int32) - vi46) - vi49) - z51_S0) = vi53
        show WP p e below _ (T52.setTop (mkF m 86 #[.val (.int p1), .val (.int p2), .val (.int p3), .val (.int p4), .val (.int (1 : Int32)), .val (.int z43_S0), .val (.int vi45), .val (.int vi46), .val (.int vi48), .val (.int vi49), .val (.int z51_S0), .val (.int vi53), .unset, .unset, .unset, .unset, .unset, .unset, .unset] []))
        refine own_go (fun t_ k => XS.iconst X52.here hx rfl (hb hby at_86) k) ?_
        show WP p e below _ (T52.setTop (mkF m 87 #[.val (.int p1), .val (.int p2), .val (.int p3), .val (.int p4), .val (.int (1 : Int32)), .val (.int z43_S0), .val (.int vi45), .val (.int vi46), .val (.int vi48), .val (.int vi49), .val (.int z51_S0), .val (.int vi53), .unset, .unset, .unset, .unset, .unset, .unset, .unset] [(.int (0 : Int32))]))
        refine own_go (fun t_ k => XS.istore X52.here hx rfl (hb hby at_87) rfl (l' := #[.val (.int p1), .val (.int p2), .val (.int p3), .val (.int p4), .val (.int (1 : Int32)), .val (.int z43_S0), .val (.int vi45), .val (.int vi46), .val (.int vi48), .val (.int vi49), .val (.int z51_S0), .val (.int vi53), .val (.int (0 : Int32)), .unset, .unset, .unset, .unset, .unset, .unset]) rfl k) ?_
        show WP p e below _ (T52.setTop (mkF m 89 #[.val (.int p1), .val (.int p2), .val (.int p3), .val (.int p4), .val (.int (1 : Int32)), .val (.int z43_S0), .val (.int vi45), .val (.int vi46), .val (.int vi48), .val (.int vi49), .val (.int z51_S0), .val (.int vi53), .val (.int (0 : Int32)), .unset, .unset, .unset, .unset, .unset, .unset] []))
        refine own_go (fun t_ k => XS.iload X52.here hx rfl (hb hby at_89) rfl k) ?_
        show WP p e below _ (T52.setTop (mkF m 91 #[.val (.int p1), .val (.int p2), .val (.int p3), .val (.int p4), .val (.int (1 : Int32)), .val (.int z43_S0), .val (.int vi45), .val (.int vi46), .val (.int vi48), .val (.int vi49), .val (.int z51_S0), .val (.int vi53), .val (.int (0 : Int32)), .unset, .unset, .unset, .unset, .unset, .unset] [(.int vi53)]))
        have J56 : ∀ (T56 : State) (ls56 : List Loc) (X56 : Stand p l e room_1 s m #[(.int p1), (.int p2), (.int p3), (.int p4)] below meth c T56 ls56 0 0) (N56 : Fr n0 ls56) (e56 : T56.heap = h0) (z55_L12 : Int32) (hz55_L12 : z55_L12 = (if (0 : Int32) < vi53 then (((vi49 + (1 : Int32)) + z51_S0) + ((p2 &&& (2147483647 : Int32)) % vi53)) else (0 : Int32))), WP p e below (GG (Q0 n0) s room_1.cells room_1.slots) (T56.setTop (mkF m 122 #[.val (.int p1), .val (.int p2), .val (.int p3), .val (.int p4), .val (.int (1 : Int32)), .val (.int z43_S0), .val (.int vi45), .val (.int vi46), .val (.int vi48), .val (.int vi49), .val (.int z51_S0), .val (.int vi53), .val (.int z55_L12), .unset, .unset, .unset, .unset, .unset, .unset] [])) := by
          intro T56 ls56 X56 N56 e56 z55_L12 hz55_L12
          show WP p e below _ (T56.setTop (mkF m 122 #[.val (.int p1), .val (.int p2), .val (.int p3), .val (.int p4), .val (.int (1 : Int32)), .val (.int z43_S0), .val (.int vi45), .val (.int vi46), .val (.int vi48), .val (.int vi49), .val (.int z51_S0), .val (.int vi53), .val (.int z55_L12), .unset, .unset, .unset, .unset, .unset, .unset] []))
          refine own_go (fun t_ k => XS.iload X56.here hx rfl (hb hby at_122) rfl k) ?_
          show WP p e below _ (T56.setTop (mkF m 124 #[.val (.int p1), .val (.int p2), .val (.int p3), .val (.int p4), .val (.int (1 : Int32)), .val (.int z43_S0), .val (.int vi45), .val (.int vi46), .val (.int vi48), .val (.int vi49), .val (.int z51_S0), .val (.int vi53), .val (.int z55_L12), .unset, .unset, .unset, .unset, .unset, .unset] [(.int z55_L12)]))
          refine own_go (fun t_ k => XS.iload X56.here hx rfl (hb hby at_124) rfl k) ?_
          show WP p e below _ (T56.setTop (mkF m 126 #[.val (.int p1), .val (.int p2), .val (.int p3), .val (.int p4), .val (.int (1 : Int32)), .val (.int z43_S0), .val (.int vi45), .val (.int vi46), .val (.int vi48), .val (.int vi49), .val (.int z51_S0), .val (.int vi53), .val (.int z55_L12), .unset, .unset, .unset, .unset, .unset, .unset] [(.int vi46), (.int z55_L12)]))
          refine own_go (fun t_ k => XS.iadd X56.here hx rfl (hb hby at_126) rfl k) ?_
          show WP p e below _ (T56.setTop (mkF m 127 #[.val (.int p1), .val (.int p2), .val (.int p3), .val (.int p4), .val (.int (1 : Int32)), .val (.int z43_S0), .val (.int vi45), .val (.int vi46), .val (.int vi48), .val (.int vi49), .val (.int z51_S0), .val (.int vi53), .val (.int z55_L12), .unset, .unset, .unset, .unset, .unset, .unset] [(.int (z55_L12 + vi46))]))
          refine own_go (fun t_ k => XS.iconst X56.here hx rfl (hb hby at_127) k) ?_
          show WP p e below _ (T56.setTop (mkF m 128 #[.val (.int p1), .val (.int p2), .val (.int p3), .val (.int p4), .val (.int (1 : Int32)), .val (.int z43_S0), .val (.int vi45), .val (.int vi46), .val (.int vi48), .val (.int vi49), .val (.int z51_S0), .val (.int vi53), .val (.int z55_L12), .unset, .unset, .unset, .unset, .unset, .unset] [(.int (1 : Int32)), (.int (z55_L12 + vi46))]))
          refine own_go (fun t_ k => XS.isub X56.here hx rfl (hb hby at_128) rfl k) ?_
          show WP p e below _ (T56.setTop (mkF m 129 #[.val (.int p1), .val (.int p2), .val (.int p3), .val (.int p4), .val (.int (1 : Int32)), .val (.int z43_S0), .val (.int vi45), .val (.int vi46), .val (.int vi48), .val (.int vi49), .val (.int z51_S0), .val (.int vi53), .val (.int z55_L12), .unset, .unset, .unset, .unset, .unset, .unset] [(.int ((z55_L12 + vi46) - (1 : Int32)))]))
          refine own_go (fun t_ k => XS.istore X56.here hx rfl (hb hby at_129) rfl (l' := #[.val (.int p1), .val (.int p2), .val (.int p3), .val (.int p4), .val (.int (1 : Int32)), .val (.int z43_S0), .val (.int vi45), .val (.int vi46), .val (.int vi48), .val (.int vi49), .val (.int z51_S0), .val (.int vi53), .val (.int z55_L12), .val (.int ((z55_L12 + vi46) - (1 : Int32))), .unset, .unset, .unset, .unset, .unset]) rfl k) ?_
          show WP p e below _ (T56.setTop (mkF m 131 #[.val (.int p1), .val (.int p2), .val (.int p3), .val (.int p4), .val (.int (1 : Int32)), .val (.int z43_S0), .val (.int vi45), .val (.int vi46), .val (.int vi48), .val (.int vi49), .val (.int z51_S0), .val (.int vi53), .val (.int z55_L12), .val (.int ((z55_L12 + vi46) - (1 : Int32))), .unset, .unset, .unset, .unset, .unset] []))
          generalize he57 : ((z55_L12 + vi46) - (1 : Int32)) = vi57
          show WP p e below _ (T56.setTop (mkF m 131 #[.val (.int p1), .val (.int p2), .val (.int p3), .val (.int p4), .val (.int (1 : Int32)), .val (.int z43_S0), .val (.int vi45), .val (.int vi46), .val (.int vi48), .val (.int vi49), .val (.int z51_S0), .val (.int vi53), .val (.int z55_L12), .val (.int vi57), .unset, .unset, .unset, .unset, .unset] []))
          refine own_go (fun t_ k => XS.iconst X56.here hx rfl (hb hby at_131) k) ?_
          show WP p e below _ (T56.setTop (mkF m 132 #[.val (.int p1), .val (.int p2), .val (.int p3), .val (.int p4), .val (.int (1 : Int32)), .val (.int z43_S0), .val (.int vi45), .val (.int vi46), .val (.int vi48), .val (.int vi49), .val (.int z51_S0), .val (.int vi53), .val (.int z55_L12), .val (.int vi57), .unset, .unset, .unset, .unset, .unset] [(.int (3 : Int32))]))
          obtain ⟨T58, h58, k58, X58, e58, E58, A58, st58⟩ := newP X56 hx hZ (hw _ (List.mem_of_getElem? (i := 7) rfl)) e56 (g := (mkF m 132 #[.val (.int p1), .val (.int p2), .val (.int p3), .val (.int p4), .val (.int (1 : Int32)), .val (.int z43_S0), .val (.int vi45), .val (.int vi46), .val (.int vi48), .val (.int vi49), .val (.int z51_S0), .val (.int vi53), .val (.int z55_L12), .val (.int vi57), .unset, .unset, .unset, .unset, .unset] [(.int (3 : Int32))])) rfl (hb hby at_132) rfl (by decide) (cap := 3) (by decide) (by decide) (by decide) (by decide)
          obtain ⟨b58, g58⟩ : ∃ z, z = Array.size h0 := ⟨_, rfl⟩
          rw [← g58] at A58 st58
          refine own_go st58 ?_
          have g_b58 : n0 ≤ b58 := Nat.le_trans (Nat.le_trans Z0 (Keep.refl h0 []).1) (Nat.le_of_eq g58.symm)
          have sz_b58 : h0.size ≤ b58 := Nat.le_trans (Keep.refl h0 []).1 (Nat.le_of_eq g58.symm)
          have K58 : Keep h0 h58 [] := (Keep.refl h0 []).ext E58
          have V58 : Arv Z h58 b58 k58 .char (3 : Int32) [(.int (0 : Int32)), (.int (0 : Int32)), (.int (0 : Int32))] (.int (0 : Int32)) := (Arv.new A58 (by decide)).pad (pad_rep [] (.int (0 : Int32)) 3)
          show WP p e below _ (T58.setTop (mkF m 134 #[.val (.int p1), .val (.int p2), .val (.int p3), .val (.int p4), .val (.int (1 : Int32)), .val (.int z43_S0), .val (.int vi45), .val (.int vi46), .val (.int vi48), .val (.int vi49), .val (.int z51_S0), .val (.int vi53), .val (.int z55_L12), .val (.int vi57), .unset, .unset, .unset, .unset, .unset] [(.ref b58)]))
          refine own_go (fun t_ k => XS.astore X58.here hx rfl (hb hby at_134) rfl rfl (l' := #[.val (.int p1), .val (.int p2), .val (.int p3), .val (.int p4), .val (.int (1 : Int32)), .val (.int z43_S0), .val (.int vi45), .val (.int vi46), .val (.int vi48), .val (.int vi49), .val (.int z51_S0), .val (.int vi53), .val (.int z55_L12), .val (.int vi57), .val (.ref b58), .unset, .unset, .unset, .unset]) rfl k) ?_
          show WP p e below _ (T58.setTop (mkF m 136 #[.val (.int p1), .val (.int p2), .val (.int p3), .val (.int p4), .val (.int (1 : Int32)), .val (.int z43_S0), .val (.int vi45), .val (.int vi46), .val (.int vi48), .val (.int vi49), .val (.int z51_S0), .val (.int vi53), .val (.int z55_L12), .val (.int vi57), .val (.ref b58), .unset, .unset, .unset, .unset] []))
          refine own_go (fun t_ k => XS.iconst X58.here hx rfl (hb hby at_136) k) ?_
          show WP p e below _ (T58.setTop (mkF m 137 #[.val (.int p1), .val (.int p2), .val (.int p3), .val (.int p4), .val (.int (1 : Int32)), .val (.int z43_S0), .val (.int vi45), .val (.int vi46), .val (.int vi48), .val (.int vi49), .val (.int z51_S0), .val (.int vi53), .val (.int z55_L12), .val (.int vi57), .val (.ref b58), .unset, .unset, .unset, .unset] [(.int (3 : Int32))]))
          obtain ⟨T59, h59, k59, X59, e59, E59, A59, st59⟩ := newP X58 hx hZ (hw _ (List.mem_of_getElem? (i := 7) rfl)) e58 (g := (mkF m 137 #[.val (.int p1), .val (.int p2), .val (.int p3), .val (.int p4), .val (.int (1 : Int32)), .val (.int z43_S0), .val (.int vi45), .val (.int vi46), .val (.int vi48), .val (.int vi49), .val (.int z51_S0), .val (.int vi53), .val (.int z55_L12), .val (.int vi57), .val (.ref b58), .unset, .unset, .unset, .unset] [(.int (3 : Int32))])) rfl (hb hby at_137) rfl (by decide) (cap := 3) (by decide) (by decide) (by decide) (by decide)
          obtain ⟨b59, g59⟩ : ∃ z, z = Array.size h58 := ⟨_, rfl⟩
          rw [← g59] at A59 st59
          refine own_go st59 ?_
          have g_b59 : n0 ≤ b59 := Nat.le_trans (Nat.le_trans Z0 K58.1) (Nat.le_of_eq g59.symm)
          have sz_b59 : h0.size ≤ b59 := Nat.le_trans K58.1 (Nat.le_of_eq g59.symm)
          have ne_b58_b59 : b58 ≠ b59 := Nat.ne_of_lt (Nat.lt_of_lt_of_le V58.lt (Nat.le_of_eq g59.symm))
          have K59 : Keep h0 h59 [] := K58.ext E59
          have V59 : Arv Z h59 b59 k59 .char (3 : Int32) [(.int (0 : Int32)), (.int (0 : Int32)), (.int (0 : Int32))] (.int (0 : Int32)) := (Arv.new A59 (by decide)).pad (pad_rep [] (.int (0 : Int32)) 3)
          show WP p e below _ (T59.setTop (mkF m 139 #[.val (.int p1), .val (.int p2), .val (.int p3), .val (.int p4), .val (.int (1 : Int32)), .val (.int z43_S0), .val (.int vi45), .val (.int vi46), .val (.int vi48), .val (.int vi49), .val (.int z51_S0), .val (.int vi53), .val (.int z55_L12), .val (.int vi57), .val (.ref b58), .unset, .unset, .unset, .unset] [(.ref b59)]))
          refine own_go (fun t_ k => XS.astore X59.here hx rfl (hb hby at_139) rfl rfl (l' := #[.val (.int p1), .val (.int p2), .val (.int p3), .val (.int p4), .val (.int (1 : Int32)), .val (.int z43_S0), .val (.int vi45), .val (.int vi46), .val (.int vi48), .val (.int vi49), .val (.int z51_S0), .val (.int vi53), .val (.int z55_L12), .val (.int vi57), .val (.ref b58), .val (.ref b59), .unset, .unset, .unset]) rfl k) ?_
          show WP p e below _ (T59.setTop (mkF m 141 #[.val (.int p1), .val (.int p2), .val (.int p3), .val (.int p4), .val (.int (1 : Int32)), .val (.int z43_S0), .val (.int vi45), .val (.int vi46), .val (.int vi48), .val (.int vi49), .val (.int z51_S0), .val (.int vi53), .val (.int z55_L12), .val (.int vi57), .val (.ref b58), .val (.ref b59), .unset, .unset, .unset] []))
          refine own_go (fun t_ k => XS.aload X59.here hx rfl (hb hby at_141) rfl rfl k) ?_
          show WP p e below _ (T59.setTop (mkF m 143 #[.val (.int p1), .val (.int p2), .val (.int p3), .val (.int p4), .val (.int (1 : Int32)), .val (.int z43_S0), .val (.int vi45), .val (.int vi46), .val (.int vi48), .val (.int vi49), .val (.int z51_S0), .val (.int vi53), .val (.int z55_L12), .val (.int vi57), .val (.ref b58), .val (.ref b59), .unset, .unset, .unset] [(.ref b58)]))
          refine own_go (fun t_ k => XS.iconst X59.here hx rfl (hb hby at_143) k) ?_
          show WP p e below _ (T59.setTop (mkF m 144 #[.val (.int p1), .val (.int p2), .val (.int p3), .val (.int p4), .val (.int (1 : Int32)), .val (.int z43_S0), .val (.int vi45), .val (.int vi46), .val (.int vi48), .val (.int vi49), .val (.int z51_S0), .val (.int vi53), .val (.int z55_L12), .val (.int vi57), .val (.ref b58), .val (.ref b59), .unset, .unset, .unset] [(.int (0 : Int32)), (.ref b58)]))
          refine own_go (fun t_ k => XS.iload X59.here hx rfl (hb hby at_144) rfl k) ?_
          show WP p e below _ (T59.setTop (mkF m 146 #[.val (.int p1), .val (.int p2), .val (.int p3), .val (.int p4), .val (.int (1 : Int32)), .val (.int z43_S0), .val (.int vi45), .val (.int vi46), .val (.int vi48), .val (.int vi49), .val (.int z51_S0), .val (.int vi53), .val (.int z55_L12), .val (.int vi57), .val (.ref b58), .val (.ref b59), .unset, .unset, .unset] [(.int vi48), (.int (0 : Int32)), (.ref b58)]))
          refine own_go (fun t_ k => XS.i2c X59.here hx rfl (hb hby at_146) rfl k) ?_
          show WP p e below _ (T59.setTop (mkF m 147 #[.val (.int p1), .val (.int p2), .val (.int p3), .val (.int p4), .val (.int (1 : Int32)), .val (.int z43_S0), .val (.int vi45), .val (.int vi46), .val (.int vi48), .val (.int vi49), .val (.int z51_S0), .val (.int vi53), .val (.int z55_L12), .val (.int vi57), .val (.ref b58), .val (.ref b59), .unset, .unset, .unset] [(.int (vi48.toUInt32.toUInt16.toUInt32.toInt32)), (.int (0 : Int32)), (.ref b58)]))
          obtain ⟨cl60, Ar60, q60, S60, M60, H60, G60⟩ := id ((V58.ext E59))
          have hin60 : ¬ ((0 : Int32) < 0 ∨ cl60.slots.size ≤ ((0 : Int32)).toNatClampNeg) := inb_of S60 (⟨by decide, by decide⟩)
          obtain ⟨T61, h61, X61, e61, W61, st61⟩ := stC X59 hx hZ e59 Ar60 (j := (0 : Int32)) hin60 (g := (mkF m 147 #[.val (.int p1), .val (.int p2), .val (.int p3), .val (.int p4), .val (.int (1 : Int32)), .val (.int z43_S0), .val (.int vi45), .val (.int vi46), .val (.int vi48), .val (.int vi49), .val (.int z51_S0), .val (.int vi53), .val (.int z55_L12), .val (.int vi57), .val (.ref b58), .val (.ref b59), .unset, .unset, .unset] [(.int (vi48.toUInt32.toUInt16.toUInt32.toInt32)), (.int (0 : Int32)), (.ref b58)])) rfl rfl (hb hby at_147)
          refine own_go st61 ?_
          have V61 : Arv Z h61 b58 k58 .char (3 : Int32) [(.int ((vi48.toUInt32.toUInt16.toUInt32.toInt32).toUInt32.toUInt16.toUInt32.toInt32)), (.int (0 : Int32)), (.int (0 : Int32))] (.int (0 : Int32)) := Arv.set Ar60 q60 S60 M60 H60 G60 (fits_nar_char _) W61 0 rfl (Nat.le_of_ble_eq_true rfl)
          have N61 := Fr.snoc X61 N56 g_b58
          have K61 : Keep h0 h61 [] := K59.wr W61 (Or.inr sz_b58)
          show WP p e below _ (T61.setTop (mkF m 148 #[.val (.int p1), .val (.int p2), .val (.int p3), .val (.int p4), .val (.int (1 : Int32)), .val (.int z43_S0), .val (.int vi45), .val (.int vi46), .val (.int vi48), .val (.int vi49), .val (.int z51_S0), .val (.int vi53), .val (.int z55_L12), .val (.int vi57), .val (.ref b58), .val (.ref b59), .unset, .unset, .unset] []))
          refine own_go (fun t_ k => XS.aload X61.here hx rfl (hb hby at_148) rfl rfl k) ?_
          show WP p e below _ (T61.setTop (mkF m 150 #[.val (.int p1), .val (.int p2), .val (.int p3), .val (.int p4), .val (.int (1 : Int32)), .val (.int z43_S0), .val (.int vi45), .val (.int vi46), .val (.int vi48), .val (.int vi49), .val (.int z51_S0), .val (.int vi53), .val (.int z55_L12), .val (.int vi57), .val (.ref b58), .val (.ref b59), .unset, .unset, .unset] [(.ref b59)]))
          refine own_go (fun t_ k => XS.iconst X61.here hx rfl (hb hby at_150) k) ?_
          show WP p e below _ (T61.setTop (mkF m 151 #[.val (.int p1), .val (.int p2), .val (.int p3), .val (.int p4), .val (.int (1 : Int32)), .val (.int z43_S0), .val (.int vi45), .val (.int vi46), .val (.int vi48), .val (.int vi49), .val (.int z51_S0), .val (.int vi53), .val (.int z55_L12), .val (.int vi57), .val (.ref b58), .val (.ref b59), .unset, .unset, .unset] [(.int (0 : Int32)), (.ref b59)]))
          refine own_go (fun t_ k => XS.iload X61.here hx rfl (hb hby at_151) rfl k) ?_
          show WP p e below _ (T61.setTop (mkF m 153 #[.val (.int p1), .val (.int p2), .val (.int p3), .val (.int p4), .val (.int (1 : Int32)), .val (.int z43_S0), .val (.int vi45), .val (.int vi46), .val (.int vi48), .val (.int vi49), .val (.int z51_S0), .val (.int vi53), .val (.int z55_L12), .val (.int vi57), .val (.ref b58), .val (.ref b59), .unset, .unset, .unset] [(.int vi49), (.int (0 : Int32)), (.ref b59)]))
          refine own_go (fun t_ k => XS.i2c X61.here hx rfl (hb hby at_153) rfl k) ?_
          show WP p e below _ (T61.setTop (mkF m 154 #[.val (.int p1), .val (.int p2), .val (.int p3), .val (.int p4), .val (.int (1 : Int32)), .val (.int z43_S0), .val (.int vi45), .val (.int vi46), .val (.int vi48), .val (.int vi49), .val (.int z51_S0), .val (.int vi53), .val (.int z55_L12), .val (.int vi57), .val (.ref b58), .val (.ref b59), .unset, .unset, .unset] [(.int (vi49.toUInt32.toUInt16.toUInt32.toInt32)), (.int (0 : Int32)), (.ref b59)]))
          obtain ⟨cl62, Ar62, q62, S62, M62, H62, G62⟩ := id ((V59.other W61 (Ne.symm ne_b58_b59)))
          have hin62 : ¬ ((0 : Int32) < 0 ∨ cl62.slots.size ≤ ((0 : Int32)).toNatClampNeg) := inb_of S62 (⟨by decide, by decide⟩)
          obtain ⟨T63, h63, X63, e63, W63, st63⟩ := stC X61 hx hZ e61 Ar62 (j := (0 : Int32)) hin62 (g := (mkF m 154 #[.val (.int p1), .val (.int p2), .val (.int p3), .val (.int p4), .val (.int (1 : Int32)), .val (.int z43_S0), .val (.int vi45), .val (.int vi46), .val (.int vi48), .val (.int vi49), .val (.int z51_S0), .val (.int vi53), .val (.int z55_L12), .val (.int vi57), .val (.ref b58), .val (.ref b59), .unset, .unset, .unset] [(.int (vi49.toUInt32.toUInt16.toUInt32.toInt32)), (.int (0 : Int32)), (.ref b59)])) rfl rfl (hb hby at_154)
          refine own_go st63 ?_
          have V63 : Arv Z h63 b59 k59 .char (3 : Int32) [(.int ((vi49.toUInt32.toUInt16.toUInt32.toInt32).toUInt32.toUInt16.toUInt32.toInt32)), (.int (0 : Int32)), (.int (0 : Int32))] (.int (0 : Int32)) := Arv.set Ar62 q62 S62 M62 H62 G62 (fits_nar_char _) W63 0 rfl (Nat.le_of_ble_eq_true rfl)
          have N63 := Fr.snoc X63 N61 g_b59
          have K63 : Keep h0 h63 [] := K61.wr W63 (Or.inr sz_b59)
          show WP p e below _ (T63.setTop (mkF m 155 #[.val (.int p1), .val (.int p2), .val (.int p3), .val (.int p4), .val (.int (1 : Int32)), .val (.int z43_S0), .val (.int vi45), .val (.int vi46), .val (.int vi48), .val (.int vi49), .val (.int z51_S0), .val (.int vi53), .val (.int z55_L12), .val (.int vi57), .val (.ref b58), .val (.ref b59), .unset, .unset, .unset] []))
          refine own_go (fun t_ k => XS.aload X63.here hx rfl (hb hby at_155) rfl rfl k) ?_
          show WP p e below _ (T63.setTop (mkF m 157 #[.val (.int p1), .val (.int p2), .val (.int p3), .val (.int p4), .val (.int (1 : Int32)), .val (.int z43_S0), .val (.int vi45), .val (.int vi46), .val (.int vi48), .val (.int vi49), .val (.int z51_S0), .val (.int vi53), .val (.int z55_L12), .val (.int vi57), .val (.ref b58), .val (.ref b59), .unset, .unset, .unset] [(.ref b58)]))
          refine own_go (fun t_ k => XS.iconst X63.here hx rfl (hb hby at_157) k) ?_
          show WP p e below _ (T63.setTop (mkF m 158 #[.val (.int p1), .val (.int p2), .val (.int p3), .val (.int p4), .val (.int (1 : Int32)), .val (.int z43_S0), .val (.int vi45), .val (.int vi46), .val (.int vi48), .val (.int vi49), .val (.int z51_S0), .val (.int vi53), .val (.int z55_L12), .val (.int vi57), .val (.ref b58), .val (.ref b59), .unset, .unset, .unset] [(.int (1 : Int32)), (.ref b58)]))
          refine own_go (fun t_ k => XS.iload X63.here hx rfl (hb hby at_158) rfl k) ?_
          show WP p e below _ (T63.setTop (mkF m 160 #[.val (.int p1), .val (.int p2), .val (.int p3), .val (.int p4), .val (.int (1 : Int32)), .val (.int z43_S0), .val (.int vi45), .val (.int vi46), .val (.int vi48), .val (.int vi49), .val (.int z51_S0), .val (.int vi53), .val (.int z55_L12), .val (.int vi57), .val (.ref b58), .val (.ref b59), .unset, .unset, .unset] [(.int z55_L12), (.int (1 : Int32)), (.ref b58)]))
          refine own_go (fun t_ k => XS.i2c X63.here hx rfl (hb hby at_160) rfl k) ?_
          show WP p e below _ (T63.setTop (mkF m 161 #[.val (.int p1), .val (.int p2), .val (.int p3), .val (.int p4), .val (.int (1 : Int32)), .val (.int z43_S0), .val (.int vi45), .val (.int vi46), .val (.int vi48), .val (.int vi49), .val (.int z51_S0), .val (.int vi53), .val (.int z55_L12), .val (.int vi57), .val (.ref b58), .val (.ref b59), .unset, .unset, .unset] [(.int (z55_L12.toUInt32.toUInt16.toUInt32.toInt32)), (.int (1 : Int32)), (.ref b58)]))
          obtain ⟨cl64, Ar64, q64, S64, M64, H64, G64⟩ := id ((V61.other W63 ne_b58_b59))
          have hin64 : ¬ ((1 : Int32) < 0 ∨ cl64.slots.size ≤ ((1 : Int32)).toNatClampNeg) := inb_of S64 (⟨by decide, by decide⟩)
          obtain ⟨T65, h65, X65, e65, W65, st65⟩ := stC X63 hx hZ e63 Ar64 (j := (1 : Int32)) hin64 (g := (mkF m 161 #[.val (.int p1), .val (.int p2), .val (.int p3), .val (.int p4), .val (.int (1 : Int32)), .val (.int z43_S0), .val (.int vi45), .val (.int vi46), .val (.int vi48), .val (.int vi49), .val (.int z51_S0), .val (.int vi53), .val (.int z55_L12), .val (.int vi57), .val (.ref b58), .val (.ref b59), .unset, .unset, .unset] [(.int (z55_L12.toUInt32.toUInt16.toUInt32.toInt32)), (.int (1 : Int32)), (.ref b58)])) rfl rfl (hb hby at_161)
          refine own_go st65 ?_
          have V65 : Arv Z h65 b58 k58 .char (3 : Int32) [(.int ((vi48.toUInt32.toUInt16.toUInt32.toInt32).toUInt32.toUInt16.toUInt32.toInt32)), (.int ((z55_L12.toUInt32.toUInt16.toUInt32.toInt32).toUInt32.toUInt16.toUInt32.toInt32)), (.int (0 : Int32))] (.int (0 : Int32)) := Arv.set Ar64 q64 S64 M64 H64 G64 (fits_nar_char _) W65 1 rfl (Nat.le_of_ble_eq_true rfl)
          have N65 := Fr.snoc X65 N63 g_b58
          have K65 : Keep h0 h65 [] := K63.wr W65 (Or.inr sz_b58)
          show WP p e below _ (T65.setTop (mkF m 162 #[.val (.int p1), .val (.int p2), .val (.int p3), .val (.int p4), .val (.int (1 : Int32)), .val (.int z43_S0), .val (.int vi45), .val (.int vi46), .val (.int vi48), .val (.int vi49), .val (.int z51_S0), .val (.int vi53), .val (.int z55_L12), .val (.int vi57), .val (.ref b58), .val (.ref b59), .unset, .unset, .unset] []))
          refine own_go (fun t_ k => XS.aload X65.here hx rfl (hb hby at_162) rfl rfl k) ?_
          show WP p e below _ (T65.setTop (mkF m 164 #[.val (.int p1), .val (.int p2), .val (.int p3), .val (.int p4), .val (.int (1 : Int32)), .val (.int z43_S0), .val (.int vi45), .val (.int vi46), .val (.int vi48), .val (.int vi49), .val (.int z51_S0), .val (.int vi53), .val (.int z55_L12), .val (.int vi57), .val (.ref b58), .val (.ref b59), .unset, .unset, .unset] [(.ref b59)]))
          refine own_go (fun t_ k => XS.iconst X65.here hx rfl (hb hby at_164) k) ?_
          show WP p e below _ (T65.setTop (mkF m 165 #[.val (.int p1), .val (.int p2), .val (.int p3), .val (.int p4), .val (.int (1 : Int32)), .val (.int z43_S0), .val (.int vi45), .val (.int vi46), .val (.int vi48), .val (.int vi49), .val (.int z51_S0), .val (.int vi53), .val (.int z55_L12), .val (.int vi57), .val (.ref b58), .val (.ref b59), .unset, .unset, .unset] [(.int (1 : Int32)), (.ref b59)]))
          refine own_go (fun t_ k => XS.iload X65.here hx rfl (hb hby at_165) rfl k) ?_
          show WP p e below _ (T65.setTop (mkF m 167 #[.val (.int p1), .val (.int p2), .val (.int p3), .val (.int p4), .val (.int (1 : Int32)), .val (.int z43_S0), .val (.int vi45), .val (.int vi46), .val (.int vi48), .val (.int vi49), .val (.int z51_S0), .val (.int vi53), .val (.int z55_L12), .val (.int vi57), .val (.ref b58), .val (.ref b59), .unset, .unset, .unset] [(.int vi57), (.int (1 : Int32)), (.ref b59)]))
          refine own_go (fun t_ k => XS.i2c X65.here hx rfl (hb hby at_167) rfl k) ?_
          show WP p e below _ (T65.setTop (mkF m 168 #[.val (.int p1), .val (.int p2), .val (.int p3), .val (.int p4), .val (.int (1 : Int32)), .val (.int z43_S0), .val (.int vi45), .val (.int vi46), .val (.int vi48), .val (.int vi49), .val (.int z51_S0), .val (.int vi53), .val (.int z55_L12), .val (.int vi57), .val (.ref b58), .val (.ref b59), .unset, .unset, .unset] [(.int (vi57.toUInt32.toUInt16.toUInt32.toInt32)), (.int (1 : Int32)), (.ref b59)]))
          obtain ⟨cl66, Ar66, q66, S66, M66, H66, G66⟩ := id ((V63.other W65 (Ne.symm ne_b58_b59)))
          have hin66 : ¬ ((1 : Int32) < 0 ∨ cl66.slots.size ≤ ((1 : Int32)).toNatClampNeg) := inb_of S66 (⟨by decide, by decide⟩)
          obtain ⟨T67, h67, X67, e67, W67, st67⟩ := stC X65 hx hZ e65 Ar66 (j := (1 : Int32)) hin66 (g := (mkF m 168 #[.val (.int p1), .val (.int p2), .val (.int p3), .val (.int p4), .val (.int (1 : Int32)), .val (.int z43_S0), .val (.int vi45), .val (.int vi46), .val (.int vi48), .val (.int vi49), .val (.int z51_S0), .val (.int vi53), .val (.int z55_L12), .val (.int vi57), .val (.ref b58), .val (.ref b59), .unset, .unset, .unset] [(.int (vi57.toUInt32.toUInt16.toUInt32.toInt32)), (.int (1 : Int32)), (.ref b59)])) rfl rfl (hb hby at_168)
          refine own_go st67 ?_
          have V67 : Arv Z h67 b59 k59 .char (3 : Int32) [(.int ((vi49.toUInt32.toUInt16.toUInt32.toInt32).toUInt32.toUInt16.toUInt32.toInt32)), (.int ((vi57.toUInt32.toUInt16.toUInt32.toInt32).toUInt32.toUInt16.toUInt32.toInt32)), (.int (0 : Int32))] (.int (0 : Int32)) := Arv.set Ar66 q66 S66 M66 H66 G66 (fits_nar_char _) W67 1 rfl (Nat.le_of_ble_eq_true rfl)
          have N67 := Fr.snoc X67 N65 g_b59
          have K67 : Keep h0 h67 [] := K65.wr W67 (Or.inr sz_b59)
          show WP p e below _ (T67.setTop (mkF m 169 #[.val (.int p1), .val (.int p2), .val (.int p3), .val (.int p4), .val (.int (1 : Int32)), .val (.int z43_S0), .val (.int vi45), .val (.int vi46), .val (.int vi48), .val (.int vi49), .val (.int z51_S0), .val (.int vi53), .val (.int z55_L12), .val (.int vi57), .val (.ref b58), .val (.ref b59), .unset, .unset, .unset] []))
          refine own_go (fun t_ k => XS.aload X67.here hx rfl (hb hby at_169) rfl rfl k) ?_
          show WP p e below _ (T67.setTop (mkF m 171 #[.val (.int p1), .val (.int p2), .val (.int p3), .val (.int p4), .val (.int (1 : Int32)), .val (.int z43_S0), .val (.int vi45), .val (.int vi46), .val (.int vi48), .val (.int vi49), .val (.int z51_S0), .val (.int vi53), .val (.int z55_L12), .val (.int vi57), .val (.ref b58), .val (.ref b59), .unset, .unset, .unset] [(.ref b58)]))
          refine own_go (fun t_ k => XS.iconst X67.here hx rfl (hb hby at_171) k) ?_
          show WP p e below _ (T67.setTop (mkF m 172 #[.val (.int p1), .val (.int p2), .val (.int p3), .val (.int p4), .val (.int (1 : Int32)), .val (.int z43_S0), .val (.int vi45), .val (.int vi46), .val (.int vi48), .val (.int vi49), .val (.int z51_S0), .val (.int vi53), .val (.int z55_L12), .val (.int vi57), .val (.ref b58), .val (.ref b59), .unset, .unset, .unset] [(.int (2 : Int32)), (.ref b58)]))
          refine own_go (fun t_ k => XS.bipush X67.here hx rfl (hb hby at_172) k) ?_
          show WP p e below _ (T67.setTop (mkF m 174 #[.val (.int p1), .val (.int p2), .val (.int p3), .val (.int p4), .val (.int (1 : Int32)), .val (.int z43_S0), .val (.int vi45), .val (.int vi46), .val (.int vi48), .val (.int vi49), .val (.int z51_S0), .val (.int vi53), .val (.int z55_L12), .val (.int vi57), .val (.ref b58), .val (.ref b59), .unset, .unset, .unset] [(.int (7 : Int32)), (.int (2 : Int32)), (.ref b58)]))
          obtain ⟨cl68, Ar68, q68, S68, M68, H68, G68⟩ := id ((V65.other W67 ne_b58_b59))
          have hin68 : ¬ ((2 : Int32) < 0 ∨ cl68.slots.size ≤ ((2 : Int32)).toNatClampNeg) := inb_of S68 (⟨by decide, by decide⟩)
          obtain ⟨T69, h69, X69, e69, W69, st69⟩ := stC X67 hx hZ e67 Ar68 (j := (2 : Int32)) hin68 (g := (mkF m 174 #[.val (.int p1), .val (.int p2), .val (.int p3), .val (.int p4), .val (.int (1 : Int32)), .val (.int z43_S0), .val (.int vi45), .val (.int vi46), .val (.int vi48), .val (.int vi49), .val (.int z51_S0), .val (.int vi53), .val (.int z55_L12), .val (.int vi57), .val (.ref b58), .val (.ref b59), .unset, .unset, .unset] [(.int (7 : Int32)), (.int (2 : Int32)), (.ref b58)])) rfl rfl (hb hby at_174)
          refine own_go st69 ?_
          have V69 : Arv Z h69 b58 k58 .char (3 : Int32) [(.int ((vi48.toUInt32.toUInt16.toUInt32.toInt32).toUInt32.toUInt16.toUInt32.toInt32)), (.int ((z55_L12.toUInt32.toUInt16.toUInt32.toInt32).toUInt32.toUInt16.toUInt32.toInt32)), (.int ((7 : Int32).toUInt32.toUInt16.toUInt32.toInt32))] (.int (0 : Int32)) := Arv.set Ar68 q68 S68 M68 H68 G68 (fits_nar_char _) W69 2 rfl (Nat.le_of_ble_eq_true rfl)
          have N69 := Fr.snoc X69 N67 g_b58
          have K69 : Keep h0 h69 [] := K67.wr W69 (Or.inr sz_b58)
          show WP p e below _ (T69.setTop (mkF m 175 #[.val (.int p1), .val (.int p2), .val (.int p3), .val (.int p4), .val (.int (1 : Int32)), .val (.int z43_S0), .val (.int vi45), .val (.int vi46), .val (.int vi48), .val (.int vi49), .val (.int z51_S0), .val (.int vi53), .val (.int z55_L12), .val (.int vi57), .val (.ref b58), .val (.ref b59), .unset, .unset, .unset] []))
          refine own_go (fun t_ k => XS.aload X69.here hx rfl (hb hby at_175) rfl rfl k) ?_
          show WP p e below _ (T69.setTop (mkF m 177 #[.val (.int p1), .val (.int p2), .val (.int p3), .val (.int p4), .val (.int (1 : Int32)), .val (.int z43_S0), .val (.int vi45), .val (.int vi46), .val (.int vi48), .val (.int vi49), .val (.int z51_S0), .val (.int vi53), .val (.int z55_L12), .val (.int vi57), .val (.ref b58), .val (.ref b59), .unset, .unset, .unset] [(.ref b59)]))
          refine own_go (fun t_ k => XS.iconst X69.here hx rfl (hb hby at_177) k) ?_
          show WP p e below _ (T69.setTop (mkF m 178 #[.val (.int p1), .val (.int p2), .val (.int p3), .val (.int p4), .val (.int (1 : Int32)), .val (.int z43_S0), .val (.int vi45), .val (.int vi46), .val (.int vi48), .val (.int vi49), .val (.int z51_S0), .val (.int vi53), .val (.int z55_L12), .val (.int vi57), .val (.ref b58), .val (.ref b59), .unset, .unset, .unset] [(.int (2 : Int32)), (.ref b59)]))
          refine own_go (fun t_ k => XS.bipush X69.here hx rfl (hb hby at_178) k) ?_
          show WP p e below _ (T69.setTop (mkF m 180 #[.val (.int p1), .val (.int p2), .val (.int p3), .val (.int p4), .val (.int (1 : Int32)), .val (.int z43_S0), .val (.int vi45), .val (.int vi46), .val (.int vi48), .val (.int vi49), .val (.int z51_S0), .val (.int vi53), .val (.int z55_L12), .val (.int vi57), .val (.ref b58), .val (.ref b59), .unset, .unset, .unset] [(.int (9 : Int32)), (.int (2 : Int32)), (.ref b59)]))
          obtain ⟨cl70, Ar70, q70, S70, M70, H70, G70⟩ := id ((V67.other W69 (Ne.symm ne_b58_b59)))
          have hin70 : ¬ ((2 : Int32) < 0 ∨ cl70.slots.size ≤ ((2 : Int32)).toNatClampNeg) := inb_of S70 (⟨by decide, by decide⟩)
          obtain ⟨T71, h71, X71, e71, W71, st71⟩ := stC X69 hx hZ e69 Ar70 (j := (2 : Int32)) hin70 (g := (mkF m 180 #[.val (.int p1), .val (.int p2), .val (.int p3), .val (.int p4), .val (.int (1 : Int32)), .val (.int z43_S0), .val (.int vi45), .val (.int vi46), .val (.int vi48), .val (.int vi49), .val (.int z51_S0), .val (.int vi53), .val (.int z55_L12), .val (.int vi57), .val (.ref b58), .val (.ref b59), .unset, .unset, .unset] [(.int (9 : Int32)), (.int (2 : Int32)), (.ref b59)])) rfl rfl (hb hby at_180)
          refine own_go st71 ?_
          have V71 : Arv Z h71 b59 k59 .char (3 : Int32) [(.int ((vi49.toUInt32.toUInt16.toUInt32.toInt32).toUInt32.toUInt16.toUInt32.toInt32)), (.int ((vi57.toUInt32.toUInt16.toUInt32.toInt32).toUInt32.toUInt16.toUInt32.toInt32)), (.int ((9 : Int32).toUInt32.toUInt16.toUInt32.toInt32))] (.int (0 : Int32)) := Arv.set Ar70 q70 S70 M70 H70 G70 (fits_nar_char _) W71 2 rfl (Nat.le_of_ble_eq_true rfl)
          have N71 := Fr.snoc X71 N69 g_b59
          have K71 : Keep h0 h71 [] := K69.wr W71 (Or.inr sz_b59)
          show WP p e below _ (T71.setTop (mkF m 181 #[.val (.int p1), .val (.int p2), .val (.int p3), .val (.int p4), .val (.int (1 : Int32)), .val (.int z43_S0), .val (.int vi45), .val (.int vi46), .val (.int vi48), .val (.int vi49), .val (.int z51_S0), .val (.int vi53), .val (.int z55_L12), .val (.int vi57), .val (.ref b58), .val (.ref b59), .unset, .unset, .unset] []))
          refine own_go (fun t_ k => XS.iload X71.here hx rfl (hb hby at_181) rfl k) ?_
          show WP p e below _ (T71.setTop (mkF m 183 #[.val (.int p1), .val (.int p2), .val (.int p3), .val (.int p4), .val (.int (1 : Int32)), .val (.int z43_S0), .val (.int vi45), .val (.int vi46), .val (.int vi48), .val (.int vi49), .val (.int z51_S0), .val (.int vi53), .val (.int z55_L12), .val (.int vi57), .val (.ref b58), .val (.ref b59), .unset, .unset, .unset] [(.int (1 : Int32))]))
          have hc183_72 : ¬ ((1 : Int32) = (0 : Int32)) := by decide
          refine own_go (fun t_ k => XS.ifYes X71.here hx rfl (pc0 := 183) (pc' := 190) rfl (hb hby at_183) rfl ((if0 _ _).trans (feq hc183_72).2) (by decide) (by decide) k) ?_
          show WP p e below _ (T71.setTop (mkF m 190 #[.val (.int p1), .val (.int p2), .val (.int p3), .val (.int p4), .val (.int (1 : Int32)), .val (.int z43_S0), .val (.int vi45), .val (.int vi46), .val (.int vi48), .val (.int vi49), .val (.int z51_S0), .val (.int vi53), .val (.int z55_L12), .val (.int vi57), .val (.ref b58), .val (.ref b59), .unset, .unset, .unset] []))
          refine own_go (fun t_ k => XS.iload X71.here hx rfl (hb hby at_190) rfl k) ?_
          show WP p e below _ (T71.setTop (mkF m 192 #[.val (.int p1), .val (.int p2), .val (.int p3), .val (.int p4), .val (.int (1 : Int32)), .val (.int z43_S0), .val (.int vi45), .val (.int vi46), .val (.int vi48), .val (.int vi49), .val (.int z51_S0), .val (.int vi53), .val (.int z55_L12), .val (.int vi57), .val (.ref b58), .val (.ref b59), .unset, .unset, .unset] [(.int (1 : Int32))]))
          refine own_go (fun t_ k => XS.iconst X71.here hx rfl (hb hby at_192) k) ?_
          show WP p e below _ (T71.setTop (mkF m 193 #[.val (.int p1), .val (.int p2), .val (.int p3), .val (.int p4), .val (.int (1 : Int32)), .val (.int z43_S0), .val (.int vi45), .val (.int vi46), .val (.int vi48), .val (.int vi49), .val (.int z51_S0), .val (.int vi53), .val (.int z55_L12), .val (.int vi57), .val (.ref b58), .val (.ref b59), .unset, .unset, .unset] [(.int (1 : Int32)), (.int (1 : Int32))]))
          have hc193_73 : ((1 : Int32) = (1 : Int32)) := by decide
          refine own_go (fun t_ k => XS.icmpNo X71.here hx rfl (hb hby at_193) rfl (teq hc193_73).2 k) ?_
          show WP p e below _ (T71.setTop (mkF m 196 #[.val (.int p1), .val (.int p2), .val (.int p3), .val (.int p4), .val (.int (1 : Int32)), .val (.int z43_S0), .val (.int vi45), .val (.int vi46), .val (.int vi48), .val (.int vi49), .val (.int z51_S0), .val (.int vi53), .val (.int z55_L12), .val (.int vi57), .val (.ref b58), .val (.ref b59), .unset, .unset, .unset] []))
          refine own_go (fun t_ k => XS.iload X71.here hx rfl (hb hby at_196) rfl k) ?_
          show WP p e below _ (T71.setTop (mkF m 198 #[.val (.int p1), .val (.int p2), .val (.int p3), .val (.int p4), .val (.int (1 : Int32)), .val (.int z43_S0), .val (.int vi45), .val (.int vi46), .val (.int vi48), .val (.int vi49), .val (.int z51_S0), .val (.int vi53), .val (.int z55_L12), .val (.int vi57), .val (.ref b58), .val (.ref b59), .unset, .unset, .unset] [(.int vi45)]))
          refine own_go (fun t_ k => XS.goto X71.here hx rfl (pc0 := 198) (pc' := 206) rfl (hb hby at_198) (by decide) (by decide) k) ?_
          show WP p e below _ (T71.setTop (mkF m 206 #[.val (.int p1), .val (.int p2), .val (.int p3), .val (.int p4), .val (.int (1 : Int32)), .val (.int z43_S0), .val (.int vi45), .val (.int vi46), .val (.int vi48), .val (.int vi49), .val (.int z51_S0), .val (.int vi53), .val (.int z55_L12), .val (.int vi57), .val (.ref b58), .val (.ref b59), .unset, .unset, .unset] [(.int vi45)]))
          refine own_go (fun t_ k => XS.istore X71.here hx rfl (hb hby at_206) rfl (l' := #[.val (.int p1), .val (.int p2), .val (.int p3), .val (.int p4), .val (.int (1 : Int32)), .val (.int z43_S0), .val (.int vi45), .val (.int vi46), .val (.int vi48), .val (.int vi49), .val (.int z51_S0), .val (.int vi53), .val (.int z55_L12), .val (.int vi57), .val (.ref b58), .val (.ref b59), .val (.int vi45), .unset, .unset]) rfl k) ?_
          show WP p e below _ (T71.setTop (mkF m 208 #[.val (.int p1), .val (.int p2), .val (.int p3), .val (.int p4), .val (.int (1 : Int32)), .val (.int z43_S0), .val (.int vi45), .val (.int vi46), .val (.int vi48), .val (.int vi49), .val (.int z51_S0), .val (.int vi53), .val (.int z55_L12), .val (.int vi57), .val (.ref b58), .val (.ref b59), .val (.int vi45), .unset, .unset] []))
          obtain ⟨T74, h74, X74, e74, E74, A74, D74, -, st74⟩ := newO X71 hx hZ hown (hw _ (List.mem_of_getElem? (i := 8) rfl)) (hw _ (List.mem_of_getElem? (i := 9) rfl)) (hw _ (List.mem_of_getElem? (i := 10) rfl)) e71 (g := (mkF m 208 #[.val (.int p1), .val (.int p2), .val (.int p3), .val (.int p4), .val (.int (1 : Int32)), .val (.int z43_S0), .val (.int vi45), .val (.int vi46), .val (.int vi48), .val (.int vi49), .val (.int z51_S0), .val (.int vi53), .val (.int z55_L12), .val (.int vi57), .val (.ref b58), .val (.ref b59), .val (.int vi45), .unset, .unset] [])) rfl (hb hby at_208) (by decide) (by decide)
          obtain ⟨b74, g74⟩ : ∃ z, z = Array.size h71 := ⟨_, rfl⟩
          rw [← g74] at A74 D74 st74
          refine own_go st74 ?_
          have g_b74 : n0 ≤ b74 := Nat.le_trans (Nat.le_trans Z0 K71.1) (Nat.le_of_eq g74.symm)
          have sz_b74 : h0.size ≤ b74 := Nat.le_trans K71.1 (Nat.le_of_eq g74.symm)
          have ne_b58_b74 : b58 ≠ b74 := Nat.ne_of_lt (Nat.lt_of_lt_of_le (V69.other W71 ne_b58_b59).lt (Nat.le_of_eq g74.symm))
          have ne_b59_b74 : b59 ≠ b74 := Nat.ne_of_lt (Nat.lt_of_lt_of_le V71.lt (Nat.le_of_eq g74.symm))
          have K74 : Keep h0 h74 [] := K71.ext E74
          have F74_starts : Fld Z h74 b74 "com/example/cairn/cairn/RunContainer" "starts" "[C" .null := D74 (Or.inl (hw _ (List.mem_of_getElem? (i := 23) rfl))) (ty := (.array .char)) (by decide)
          have F74_ends : Fld Z h74 b74 "com/example/cairn/cairn/RunContainer" "ends" "[C" .null := D74 (Or.inl (hw _ (List.mem_of_getElem? (i := 25) rfl))) (ty := (.array .char)) (by decide)
          have F74_size : Fld Z h74 b74 "com/example/cairn/cairn/RunContainer" "size" "I" (.int (0 : Int32)) := D74 (Or.inl (hw _ (List.mem_of_getElem? (i := 27) rfl))) (ty := .int) (by decide)
          have F74_cardinality : Fld Z h74 b74 "com/example/cairn/cairn/RunContainer" "cardinality" "I" (.int (0 : Int32)) := D74 (Or.inl (hw _ (List.mem_of_getElem? (i := 29) rfl))) (ty := .int) (by decide)
          have F74_mayTouch : Fld Z h74 b74 "com/example/cairn/cairn/RunContainer" "mayTouch" "Z" (.int (0 : Int32)) := D74 (Or.inr (hw _ (List.mem_of_getElem? (i := 31) rfl))) (ty := .boolean) (by decide)
          show WP p e below _ (T74.setTop (mkF m 211 #[.val (.int p1), .val (.int p2), .val (.int p3), .val (.int p4), .val (.int (1 : Int32)), .val (.int z43_S0), .val (.int vi45), .val (.int vi46), .val (.int vi48), .val (.int vi49), .val (.int z51_S0), .val (.int vi53), .val (.int z55_L12), .val (.int vi57), .val (.ref b58), .val (.ref b59), .val (.int vi45), .unset, .unset] [(.ref b74)]))
          refine own_go (fun t_ k => XS.dup X74.here hx rfl (hb hby at_211) rfl rfl k) ?_
          show WP p e below _ (T74.setTop (mkF m 212 #[.val (.int p1), .val (.int p2), .val (.int p3), .val (.int p4), .val (.int (1 : Int32)), .val (.int z43_S0), .val (.int vi45), .val (.int vi46), .val (.int vi48), .val (.int vi49), .val (.int z51_S0), .val (.int vi53), .val (.int z55_L12), .val (.int vi57), .val (.ref b58), .val (.ref b59), .val (.int vi45), .unset, .unset] [(.ref b74), (.ref b74)]))
          refine own_go (fun t_ k => XS.aload X74.here hx rfl (hb hby at_212) rfl rfl k) ?_
          show WP p e below _ (T74.setTop (mkF m 214 #[.val (.int p1), .val (.int p2), .val (.int p3), .val (.int p4), .val (.int (1 : Int32)), .val (.int z43_S0), .val (.int vi45), .val (.int vi46), .val (.int vi48), .val (.int vi49), .val (.int z51_S0), .val (.int vi53), .val (.int z55_L12), .val (.int vi57), .val (.ref b58), .val (.ref b59), .val (.int vi45), .unset, .unset] [(.ref b58), (.ref b74), (.ref b74)]))
          refine own_go (fun t_ k => XS.aload X74.here hx rfl (hb hby at_214) rfl rfl k) ?_
          show WP p e below _ (T74.setTop (mkF m 216 #[.val (.int p1), .val (.int p2), .val (.int p3), .val (.int p4), .val (.int (1 : Int32)), .val (.int z43_S0), .val (.int vi45), .val (.int vi46), .val (.int vi48), .val (.int vi49), .val (.int z51_S0), .val (.int vi53), .val (.int z55_L12), .val (.int vi57), .val (.ref b58), .val (.ref b59), .val (.int vi45), .unset, .unset] [(.ref b59), (.ref b58), (.ref b74), (.ref b74)]))
          refine own_go (fun t_ k => XS.iload X74.here hx rfl (hb hby at_216) rfl k) ?_
          show WP p e below _ (T74.setTop (mkF m 218 #[.val (.int p1), .val (.int p2), .val (.int p3), .val (.int p4), .val (.int (1 : Int32)), .val (.int z43_S0), .val (.int vi45), .val (.int vi46), .val (.int vi48), .val (.int vi49), .val (.int z51_S0), .val (.int vi53), .val (.int z55_L12), .val (.int vi57), .val (.ref b58), .val (.ref b59), .val (.int vi45), .unset, .unset] [(.int (1 : Int32)), (.ref b59), (.ref b58), (.ref b74), (.ref b74)]))
          refine own_go (fun t_ k => XS.iload X74.here hx rfl (hb hby at_218) rfl k) ?_
          show WP p e below _ (T74.setTop (mkF m 220 #[.val (.int p1), .val (.int p2), .val (.int p3), .val (.int p4), .val (.int (1 : Int32)), .val (.int z43_S0), .val (.int vi45), .val (.int vi46), .val (.int vi48), .val (.int vi49), .val (.int z51_S0), .val (.int vi53), .val (.int z55_L12), .val (.int vi57), .val (.ref b58), .val (.ref b59), .val (.int vi45), .unset, .unset] [(.int vi45), (.int (1 : Int32)), (.ref b59), (.ref b58), (.ref b74), (.ref b74)]))
          refine own_go (fun t_ k => XS.iload X74.here hx rfl (hb hby at_220) rfl k) ?_
          show WP p e below _ (T74.setTop (mkF m 222 #[.val (.int p1), .val (.int p2), .val (.int p3), .val (.int p4), .val (.int (1 : Int32)), .val (.int z43_S0), .val (.int vi45), .val (.int vi46), .val (.int vi48), .val (.int vi49), .val (.int z51_S0), .val (.int vi53), .val (.int z55_L12), .val (.int vi57), .val (.ref b58), .val (.ref b59), .val (.int vi45), .unset, .unset] [(.int z43_S0), (.int vi45), (.int (1 : Int32)), (.ref b59), (.ref b58), (.ref b74), (.ref b74)]))
          obtain ⟨_, _, ⟨T75, L75, k75, n75⟩, -, X75, ⟨Lc75, hQ75, l75, y75, z75⟩, st75⟩ := X74.specialBack hx (y := (⟨"com/example/cairn/cairn/RunContainer", "<init>", "([C[CIIZ)V"⟩ : MethodName)) rfl hown (mvT hZ (hw _ (List.mem_of_getElem? (i := 11) rfl))) (mvT hZ (hw _ (List.mem_of_getElem? (i := 12) rfl))) (mvT hZ (hw _ (List.mem_of_getElem? (i := 13) rfl))) (by decide) (backOf (W := 1) (rm2 l Z a0 hw [] b74 b58 b59 (1 : Int32) vi45 z43_S0 h74 n0 A74 g_b74 F74_starts F74_ends F74_size F74_cardinality F74_mayTouch) hZ (hw _ (List.mem_of_getElem? (i := 13) rfl)) (hw _ (List.mem_of_getElem? (i := 10) rfl)) (by decide) (by decide)) (g := (mkF m 222 #[.val (.int p1), .val (.int p2), .val (.int p3), .val (.int p4), .val (.int (1 : Int32)), .val (.int z43_S0), .val (.int vi45), .val (.int vi46), .val (.int vi48), .val (.int vi49), .val (.int z51_S0), .val (.int vi53), .val (.int z55_L12), .val (.int vi57), .val (.ref b58), .val (.ref b59), .val (.int vi45), .unset, .unset] [(.int z43_S0), (.int vi45), (.int (1 : Int32)), (.ref b59), (.ref b58), (.ref b74), (.ref b74)])) rfl (by rw [hml]; rfl) (Steps.refl _) (a := b74) (argsL := [(.ref b58), (.ref b59), (.int (1 : Int32)), (.int vi45), (.int z43_S0)]) (rest := [(.ref b74)]) (lenOf pd_2 rfl) rfl (by show 2 * 0 + _ ≤ _; exact Nat.le_of_eq rfl) (hb hby at_222) (fun _ _ => ⟨rfl, e74, (by decide : 3 + 0 ≤ _), (by decide : 12 + 0 ≤ _)⟩)
          dsimp only [Pt.U, Pt.locs, Pt.cells, Pt.slots] at X75 l75 y75 z75 st75 hQ75
          subst l75 y75 z75
          obtain ⟨rfl, N75q, K75c, E75c, Fa75, Fb75, Fs75⟩ := hQ75
          have N75 := Fr.app N71 N75q
          replace X75 : Stand p l e room_1 s m _ below meth c T75 _ 3 12 := X75
          refine own_go (fun t_ k => st75.trans k) ?_
          have K75 : Keep h0 T75.heap [] := K74.trans K75c (allS (Or.inr sz_b74) all0)
          show WP p e below _ (T75.setTop (mkF m 225 #[.val (.int p1), .val (.int p2), .val (.int p3), .val (.int p4), .val (.int (1 : Int32)), .val (.int z43_S0), .val (.int vi45), .val (.int vi46), .val (.int vi48), .val (.int vi49), .val (.int z51_S0), .val (.int vi53), .val (.int z55_L12), .val (.int vi57), .val (.ref b58), .val (.ref b59), .val (.int vi45), .unset, .unset] [(.ref b74)]))
          refine own_go (fun t_ k => XS.astore X75.here hx rfl (hb hby at_225) rfl rfl (l' := #[.val (.int p1), .val (.int p2), .val (.int p3), .val (.int p4), .val (.int (1 : Int32)), .val (.int z43_S0), .val (.int vi45), .val (.int vi46), .val (.int vi48), .val (.int vi49), .val (.int z51_S0), .val (.int vi53), .val (.int z55_L12), .val (.int vi57), .val (.ref b58), .val (.ref b59), .val (.int vi45), .val (.ref b74), .unset]) rfl k) ?_
          show WP p e below _ (T75.setTop (mkF m 227 #[.val (.int p1), .val (.int p2), .val (.int p3), .val (.int p4), .val (.int (1 : Int32)), .val (.int z43_S0), .val (.int vi45), .val (.int vi46), .val (.int vi48), .val (.int vi49), .val (.int z51_S0), .val (.int vi53), .val (.int z55_L12), .val (.int vi57), .val (.ref b58), .val (.ref b59), .val (.int vi45), .val (.ref b74), .unset] []))
          refine own_go (fun t_ k => XS.iconst X75.here hx rfl (hb hby at_227) k) ?_
          show WP p e below _ (T75.setTop (mkF m 228 #[.val (.int p1), .val (.int p2), .val (.int p3), .val (.int p4), .val (.int (1 : Int32)), .val (.int z43_S0), .val (.int vi45), .val (.int vi46), .val (.int vi48), .val (.int vi49), .val (.int z51_S0), .val (.int vi53), .val (.int z55_L12), .val (.int vi57), .val (.ref b58), .val (.ref b59), .val (.int vi45), .val (.ref b74), .unset] [(.int (0 : Int32))]))
          refine own_go (fun t_ k => XS.istore X75.here hx rfl (hb hby at_228) rfl (l' := #[.val (.int p1), .val (.int p2), .val (.int p3), .val (.int p4), .val (.int (1 : Int32)), .val (.int z43_S0), .val (.int vi45), .val (.int vi46), .val (.int vi48), .val (.int vi49), .val (.int z51_S0), .val (.int vi53), .val (.int z55_L12), .val (.int vi57), .val (.ref b58), .val (.ref b59), .val (.int vi45), .val (.ref b74), .val (.int (0 : Int32))]) rfl k) ?_
          show WP p e below _ (T75.setTop (mkF m 230 #[.val (.int p1), .val (.int p2), .val (.int p3), .val (.int p4), .val (.int (1 : Int32)), .val (.int z43_S0), .val (.int vi45), .val (.int vi46), .val (.int vi48), .val (.int vi49), .val (.int z51_S0), .val (.int vi53), .val (.int z55_L12), .val (.int vi57), .val (.ref b58), .val (.ref b59), .val (.int vi45), .val (.ref b74), .val (.int (0 : Int32))] []))
          refine own_go (fun t_ k => XS.iload X75.here hx rfl (hb hby at_230) rfl k) ?_
          show WP p e below _ (T75.setTop (mkF m 232 #[.val (.int p1), .val (.int p2), .val (.int p3), .val (.int p4), .val (.int (1 : Int32)), .val (.int z43_S0), .val (.int vi45), .val (.int vi46), .val (.int vi48), .val (.int vi49), .val (.int z51_S0), .val (.int vi53), .val (.int z55_L12), .val (.int vi57), .val (.ref b58), .val (.ref b59), .val (.int vi45), .val (.ref b74), .val (.int (0 : Int32))] [(.int (1 : Int32))]))
          refine own_go (fun t_ k => XS.iconst X75.here hx rfl (hb hby at_232) k) ?_
          show WP p e below _ (T75.setTop (mkF m 233 #[.val (.int p1), .val (.int p2), .val (.int p3), .val (.int p4), .val (.int (1 : Int32)), .val (.int z43_S0), .val (.int vi45), .val (.int vi46), .val (.int vi48), .val (.int vi49), .val (.int z51_S0), .val (.int vi53), .val (.int z55_L12), .val (.int vi57), .val (.ref b58), .val (.ref b59), .val (.int vi45), .val (.ref b74), .val (.int (0 : Int32))] [(.int (1 : Int32)), (.int (1 : Int32))]))
          have hc233_76 : ¬ ((1 : Int32) < (1 : Int32)) := by decide
          refine own_go (fun t_ k => XS.icmpNo X75.here hx rfl (hb hby at_233) rfl (flt hc233_76).1 k) ?_
          show WP p e below _ (T75.setTop (mkF m 236 #[.val (.int p1), .val (.int p2), .val (.int p3), .val (.int p4), .val (.int (1 : Int32)), .val (.int z43_S0), .val (.int vi45), .val (.int vi46), .val (.int vi48), .val (.int vi49), .val (.int z51_S0), .val (.int vi53), .val (.int z55_L12), .val (.int vi57), .val (.ref b58), .val (.ref b59), .val (.int vi45), .val (.ref b74), .val (.int (0 : Int32))] []))
          refine own_go (fun t_ k => XS.iload X75.here hx rfl (hb hby at_236) rfl k) ?_
          show WP p e below _ (T75.setTop (mkF m 238 #[.val (.int p1), .val (.int p2), .val (.int p3), .val (.int p4), .val (.int (1 : Int32)), .val (.int z43_S0), .val (.int vi45), .val (.int vi46), .val (.int vi48), .val (.int vi49), .val (.int z51_S0), .val (.int vi53), .val (.int z55_L12), .val (.int vi57), .val (.ref b58), .val (.ref b59), .val (.int vi45), .val (.ref b74), .val (.int (0 : Int32))] [(.int (0 : Int32))]))
          refine own_go (fun t_ k => XS.iload X75.here hx rfl (hb hby at_238) rfl k) ?_
          show WP p e below _ (T75.setTop (mkF m 240 #[.val (.int p1), .val (.int p2), .val (.int p3), .val (.int p4), .val (.int (1 : Int32)), .val (.int z43_S0), .val (.int vi45), .val (.int vi46), .val (.int vi48), .val (.int vi49), .val (.int z51_S0), .val (.int vi53), .val (.int z55_L12), .val (.int vi57), .val (.ref b58), .val (.ref b59), .val (.int vi45), .val (.ref b74), .val (.int (0 : Int32))] [(.int vi48), (.int (0 : Int32))]))
          refine own_go (fun t_ k => XS.iload X75.here hx rfl (hb hby at_240) rfl k) ?_
          show WP p e below _ (T75.setTop (mkF m 242 #[.val (.int p1), .val (.int p2), .val (.int p3), .val (.int p4), .val (.int (1 : Int32)), .val (.int z43_S0), .val (.int vi45), .val (.int vi46), .val (.int vi48), .val (.int vi49), .val (.int z51_S0), .val (.int vi53), .val (.int z55_L12), .val (.int vi57), .val (.ref b58), .val (.ref b59), .val (.int vi45), .val (.ref b74), .val (.int (0 : Int32))] [(.int vi45), (.int vi48), (.int (0 : Int32))]))
          obtain ⟨_, _, ⟨T77, L77, k77, n77⟩, -, X77, ⟨Lc77, hQ77, l77, y77, z77⟩, st77⟩ := Jvm.LawKit.callS X75 hx (y := (⟨"com/example/cairn/cairn/RunContainerValuesHashPinLaw", "addRun", "(III)I"⟩ : MethodName)) hown (mvT hZ (hw _ (List.mem_of_getElem? (i := 32) rfl))) (mvT hZ (hw _ (List.mem_of_getElem? (i := 33) rfl))) (mvT hZ (hw _ (List.mem_of_getElem? (i := 34) rfl))) (mvT hZ (hw _ (List.mem_of_getElem? (i := 35) rfl))) (by decide) (backOf (W := 0) (rm5 l Z a0 hw [] (0 : Int32) vi48 vi45 T75.heap n0) hZ (hw _ (List.mem_of_getElem? (i := 35) rfl)) (hw _ (List.mem_of_getElem? (i := 34) rfl)) (by decide) (by decide)) (g := (mkF m 242 #[.val (.int p1), .val (.int p2), .val (.int p3), .val (.int p4), .val (.int (1 : Int32)), .val (.int z43_S0), .val (.int vi45), .val (.int vi46), .val (.int vi48), .val (.int vi49), .val (.int z51_S0), .val (.int vi53), .val (.int z55_L12), .val (.int vi57), .val (.ref b58), .val (.ref b59), .val (.int vi45), .val (.ref b74), .val (.int (0 : Int32))] [(.int vi45), (.int vi48), (.int (0 : Int32))])) rfl (by rw [hml]; rfl) (argsL := [(.int (0 : Int32)), (.int vi48), (.int vi45)]) (rest := []) (lenOf pd_4 rfl) rfl (by show 2 * 0 + _ ≤ _; exact Nat.le_of_eq rfl) (hb hby at_242) (fun _ _ => ⟨rfl, rfl, (by decide : 3 + 0 ≤ _), (by decide : 12 + 0 ≤ _)⟩)
          dsimp only [Pt.U, Pt.locs, Pt.cells, Pt.slots] at X77 l77 y77 z77 st77 hQ77
          subst l77 y77 z77
          obtain ⟨rfl, N77q, e77⟩ := hQ77
          have N77 := Fr.app N75 N77q
          replace X77 : Stand p l e room_1 s m _ below meth c T77 _ 3 12 := X77
          refine own_go st77 ?_
          show WP p e below _ (T77.setTop (mkF m 245 #[.val (.int p1), .val (.int p2), .val (.int p3), .val (.int p4), .val (.int (1 : Int32)), .val (.int z43_S0), .val (.int vi45), .val (.int vi46), .val (.int vi48), .val (.int vi49), .val (.int z51_S0), .val (.int vi53), .val (.int z55_L12), .val (.int vi57), .val (.ref b58), .val (.ref b59), .val (.int vi45), .val (.ref b74), .val (.int (0 : Int32))] [(.int (f5 (0 : Int32) vi48 vi45))]))
          generalize he78 : (f5 (0 : Int32) vi48 vi45) = vi78
          show WP p e below _ (T77.setTop (mkF m 245 #[.val (.int p1), .val (.int p2), .val (.int p3), .val (.int p4), .val (.int (1 : Int32)), .val (.int z43_S0), .val (.int vi45), .val (.int vi46), .val (.int vi48), .val (.int vi49), .val (.int z51_S0), .val (.int vi53), .val (.int z55_L12), .val (.int vi57), .val (.ref b58), .val (.ref b59), .val (.int vi45), .val (.ref b74), .val (.int (0 : Int32))] [(.int vi78)]))
          refine own_go (fun t_ k => XS.istore X77.here hx rfl (hb hby at_245) rfl (l' := #[.val (.int p1), .val (.int p2), .val (.int p3), .val (.int p4), .val (.int (1 : Int32)), .val (.int z43_S0), .val (.int vi45), .val (.int vi46), .val (.int vi48), .val (.int vi49), .val (.int z51_S0), .val (.int vi53), .val (.int z55_L12), .val (.int vi57), .val (.ref b58), .val (.ref b59), .val (.int vi45), .val (.ref b74), .val (.int vi78)]) rfl k) ?_
          show WP p e below _ (T77.setTop (mkF m 247 #[.val (.int p1), .val (.int p2), .val (.int p3), .val (.int p4), .val (.int (1 : Int32)), .val (.int z43_S0), .val (.int vi45), .val (.int vi46), .val (.int vi48), .val (.int vi49), .val (.int z51_S0), .val (.int vi53), .val (.int z55_L12), .val (.int vi57), .val (.ref b58), .val (.ref b59), .val (.int vi45), .val (.ref b74), .val (.int vi78)] []))
          refine own_go (fun t_ k => XS.iload X77.here hx rfl (hb hby at_247) rfl k) ?_
          show WP p e below _ (T77.setTop (mkF m 249 #[.val (.int p1), .val (.int p2), .val (.int p3), .val (.int p4), .val (.int (1 : Int32)), .val (.int z43_S0), .val (.int vi45), .val (.int vi46), .val (.int vi48), .val (.int vi49), .val (.int z51_S0), .val (.int vi53), .val (.int z55_L12), .val (.int vi57), .val (.ref b58), .val (.ref b59), .val (.int vi45), .val (.ref b74), .val (.int vi78)] [(.int (1 : Int32))]))
          refine own_go (fun t_ k => XS.iconst X77.here hx rfl (hb hby at_249) k) ?_
          show WP p e below _ (T77.setTop (mkF m 250 #[.val (.int p1), .val (.int p2), .val (.int p3), .val (.int p4), .val (.int (1 : Int32)), .val (.int z43_S0), .val (.int vi45), .val (.int vi46), .val (.int vi48), .val (.int vi49), .val (.int z51_S0), .val (.int vi53), .val (.int z55_L12), .val (.int vi57), .val (.ref b58), .val (.ref b59), .val (.int vi45), .val (.ref b74), .val (.int vi78)] [(.int (2 : Int32)), (.int (1 : Int32))]))
          have hc250_79 : ((1 : Int32) < (2 : Int32)) := by decide
          refine own_go (fun t_ k => XS.icmpYes X77.here hx rfl (pc0 := 250) (pc' := 264) rfl (hb hby at_250) rfl (tlt hc250_79).1 (by decide) (by decide) k) ?_
          show WP p e below _ (T77.setTop (mkF m 264 #[.val (.int p1), .val (.int p2), .val (.int p3), .val (.int p4), .val (.int (1 : Int32)), .val (.int z43_S0), .val (.int vi45), .val (.int vi46), .val (.int vi48), .val (.int vi49), .val (.int z51_S0), .val (.int vi53), .val (.int z55_L12), .val (.int vi57), .val (.ref b58), .val (.ref b59), .val (.int vi45), .val (.ref b74), .val (.int vi78)] []))
          refine own_go (fun t_ k => XS.aload X77.here hx rfl (hb hby at_264) rfl rfl k) ?_
          show WP p e below _ (T77.setTop (mkF m 266 #[.val (.int p1), .val (.int p2), .val (.int p3), .val (.int p4), .val (.int (1 : Int32)), .val (.int z43_S0), .val (.int vi45), .val (.int vi46), .val (.int vi48), .val (.int vi49), .val (.int z51_S0), .val (.int vi53), .val (.int z55_L12), .val (.int vi57), .val (.ref b58), .val (.ref b59), .val (.int vi45), .val (.ref b74), .val (.int vi78)] [(.ref b74)]))
          obtain ⟨y0, y1, y2⟩ := own_runs (own_r0 he45 he48 he49)
          obtain ⟨cq80, kq80, q80a, q80b, q80c⟩ := isOf (T := T77) hZ e77 E75c
          obtain ⟨_, _, ⟨T80, L80, k80, n80⟩, -, X80, ⟨Lc80, hQ80, l80, y80, z80⟩, st80⟩ := X77.virtualBack hx (y := (⟨"com/example/cairn/cairn/RunContainer", "valuesHash", "()I"⟩ : MethodName)) (z := (⟨"com/example/cairn/cairn/RunContainer", "valuesHash", "()I"⟩ : MethodName)) hown (mvT hZ (hw _ (List.mem_of_getElem? (i := 36) rfl))) (mvT hZ (hw _ (List.mem_of_getElem? (i := 37) rfl))) (notFace_of_selects (args := #[]) (mvT hZ (hw _ (List.mem_of_getElem? (i := 39) rfl)))) (mvT hZ (hw _ (List.mem_of_getElem? (i := 39) rfl))) (mvT hZ (hw _ (List.mem_of_getElem? (i := 38) rfl))) (by decide) (backOf (W := 0) (rm6_1 l Z a0 hw [] b74 b58 b59 k58 k59 ((vi48.toUInt32.toUInt16.toUInt32.toInt32).toUInt32.toUInt16.toUInt32.toInt32) ((z55_L12.toUInt32.toUInt16.toUInt32.toInt32).toUInt32.toUInt16.toUInt32.toInt32) ((vi49.toUInt32.toUInt16.toUInt32.toInt32).toUInt32.toUInt16.toUInt32.toInt32) ((vi57.toUInt32.toUInt16.toUInt32.toInt32).toUInt32.toUInt16.toUInt32.toInt32) (vi45).toInt.toNat (vi46).toInt.toNat T75.heap n0 Fa75 Fb75 Fs75 (((V69.other W71 ne_b58_b59).ext E74).keep K75c (ninS ne_b58_b74 nin0)) ((V71.ext E74).keep K75c (ninS ne_b59_b74 nin0)) y0 y1 y2) hZ (hw _ (List.mem_of_getElem? (i := 40) rfl)) (hw _ (List.mem_of_getElem? (i := 10) rfl)) (by decide) (by decide)) q80a q80c (g := (mkF m 266 #[.val (.int p1), .val (.int p2), .val (.int p3), .val (.int p4), .val (.int (1 : Int32)), .val (.int z43_S0), .val (.int vi45), .val (.int vi46), .val (.int vi48), .val (.int vi49), .val (.int z51_S0), .val (.int vi53), .val (.int z55_L12), .val (.int vi57), .val (.ref b58), .val (.ref b59), .val (.int vi45), .val (.ref b74), .val (.int vi78)] [(.ref b74)])) rfl (by rw [hml]; rfl) (Steps.refl _) (argsL := []) (rest := []) (lenOf pd_3 rfl) rfl (by show 2 * 0 + _ ≤ _; exact Nat.le_of_eq rfl) (hb hby at_266) (fun _ _ => ⟨rfl, e77, (by decide : 3 + 0 ≤ _), (by decide : 12 + 0 ≤ _)⟩)
          dsimp only [Pt.U, Pt.locs, Pt.cells, Pt.slots] at X80 l80 y80 z80 st80 hQ80
          subst l80 y80 z80
          obtain ⟨rfl, N80q, e80⟩ := hQ80
          have N80 := Fr.app N77 N80q
          replace X80 : Stand p l e room_1 s m _ below meth c T80 _ 3 12 := X80
          refine own_go (fun t_ k => st80.trans k) ?_
          show WP p e below _ (T80.setTop (mkF m 269 #[.val (.int p1), .val (.int p2), .val (.int p3), .val (.int p4), .val (.int (1 : Int32)), .val (.int z43_S0), .val (.int vi45), .val (.int vi46), .val (.int vi48), .val (.int vi49), .val (.int z51_S0), .val (.int vi53), .val (.int z55_L12), .val (.int vi57), .val (.ref b58), .val (.ref b59), .val (.int vi45), .val (.ref b74), .val (.int vi78)] [(.int (hr 0 ((vi48.toUInt32.toUInt16.toUInt32.toInt32).toUInt32.toUInt16.toUInt32.toInt32) (vi45).toInt.toNat))]))
          generalize he81 : (hr 0 ((vi48.toUInt32.toUInt16.toUInt32.toInt32).toUInt32.toUInt16.toUInt32.toInt32) (vi45).toInt.toNat) = vi81
          show WP p e below _ (T80.setTop (mkF m 269 #[.val (.int p1), .val (.int p2), .val (.int p3), .val (.int p4), .val (.int (1 : Int32)), .val (.int z43_S0), .val (.int vi45), .val (.int vi46), .val (.int vi48), .val (.int vi49), .val (.int z51_S0), .val (.int vi53), .val (.int z55_L12), .val (.int vi57), .val (.ref b58), .val (.ref b59), .val (.int vi45), .val (.ref b74), .val (.int vi78)] [(.int vi81)]))
          refine own_go (fun t_ k => XS.iload X80.here hx rfl (hb hby at_269) rfl k) ?_
          show WP p e below _ (T80.setTop (mkF m 271 #[.val (.int p1), .val (.int p2), .val (.int p3), .val (.int p4), .val (.int (1 : Int32)), .val (.int z43_S0), .val (.int vi45), .val (.int vi46), .val (.int vi48), .val (.int vi49), .val (.int z51_S0), .val (.int vi53), .val (.int z55_L12), .val (.int vi57), .val (.ref b58), .val (.ref b59), .val (.int vi45), .val (.ref b74), .val (.int vi78)] [(.int vi78), (.int vi81)]))
          have J84 : ∀ (T84 : State) (ls84 : List Loc) (X84 : Stand p l e room_1 s m #[(.int p1), (.int p2), (.int p3), (.int p4)] below meth c T84 ls84 3 12) (N84 : Fr n0 ls84) (e84 : T84.heap = T75.heap) (z83_S0 : Int32) (hz83_S0 : z83_S0 = (if vi81 = vi78 then (1 : Int32) else (0 : Int32))), WP p e below (GG (Q0 n0) s room_1.cells room_1.slots) (T84.setTop (mkF m 279 #[.val (.int p1), .val (.int p2), .val (.int p3), .val (.int p4), .val (.int (1 : Int32)), .val (.int z43_S0), .val (.int vi45), .val (.int vi46), .val (.int vi48), .val (.int vi49), .val (.int z51_S0), .val (.int vi53), .val (.int z55_L12), .val (.int vi57), .val (.ref b58), .val (.ref b59), .val (.int vi45), .val (.ref b74), .val (.int vi78)] [(.int z83_S0)])) := by
            intro T84 ls84 X84 N84 e84 z83_S0 hz83_S0
            show WP p e below _ (T84.setTop (mkF m 279 #[.val (.int p1), .val (.int p2), .val (.int p3), .val (.int p4), .val (.int (1 : Int32)), .val (.int z43_S0), .val (.int vi45), .val (.int vi46), .val (.int vi48), .val (.int vi49), .val (.int z51_S0), .val (.int vi53), .val (.int z55_L12), .val (.int vi57), .val (.ref b58), .val (.ref b59), .val (.int vi45), .val (.ref b74), .val (.int vi78)] [(.int z83_S0)]))
            exact own_retZ X84 hx Bd.notSynchronized Bd.returns (hb hby at_279) (by rw [hz83_S0]; (repeat' split); all_goals first | exact Or.inl rfl | exact Or.inr rfl) (show Q0 n0 _ _ _ from ⟨congrArg (fun z => some (Value.int z)) (own_law_1 (p1 := p1) (p2 := p2) (p3 := p3) (p4 := p4) he2 hz43_S0 he45 he46 he48 he49 hz51_S0 he53 hz55_L12 he57 he78 he81 hz83_S0), N84⟩) (by decide) (by decide)
          by_cases hc271_82 : vi81 = vi78
          · refine own_go (fun t_ k => XS.icmpNo X80.here hx rfl (hb hby at_271) rfl (teq hc271_82).2 k) ?_
            show WP p e below _ (T80.setTop (mkF m 274 #[.val (.int p1), .val (.int p2), .val (.int p3), .val (.int p4), .val (.int (1 : Int32)), .val (.int z43_S0), .val (.int vi45), .val (.int vi46), .val (.int vi48), .val (.int vi49), .val (.int z51_S0), .val (.int vi53), .val (.int z55_L12), .val (.int vi57), .val (.ref b58), .val (.ref b59), .val (.int vi45), .val (.ref b74), .val (.int vi78)] []))
            refine own_go (fun t_ k => XS.iconst X80.here hx rfl (hb hby at_274) k) ?_
            show WP p e below _ (T80.setTop (mkF m 275 #[.val (.int p1), .val (.int p2), .val (.int p3), .val (.int p4), .val (.int (1 : Int32)), .val (.int z43_S0), .val (.int vi45), .val (.int vi46), .val (.int vi48), .val (.int vi49), .val (.int z51_S0), .val (.int vi53), .val (.int z55_L12), .val (.int vi57), .val (.ref b58), .val (.ref b59), .val (.int vi45), .val (.ref b74), .val (.int vi78)] [(.int (1 : Int32))]))
            refine own_go (fun t_ k => XS.goto X80.here hx rfl (pc0 := 275) (pc' := 279) rfl (hb hby at_275) (by decide) (by decide) k) ?_
            show WP p e below _ (T80.setTop (mkF m 279 #[.val (.int p1), .val (.int p2), .val (.int p3), .val (.int p4), .val (.int (1 : Int32)), .val (.int z43_S0), .val (.int vi45), .val (.int vi46), .val (.int vi48), .val (.int vi49), .val (.int z51_S0), .val (.int vi53), .val (.int z55_L12), .val (.int vi57), .val (.ref b58), .val (.ref b59), .val (.int vi45), .val (.ref b74), .val (.int vi78)] [(.int (1 : Int32))]))
            exact J84 T80 _ X80 N80 e80 _ (by rw [if_pos hc271_82])
          · refine own_go (fun t_ k => XS.icmpYes X80.here hx rfl (pc0 := 271) (pc' := 278) rfl (hb hby at_271) rfl (feq hc271_82).2 (by decide) (by decide) k) ?_
            show WP p e below _ (T80.setTop (mkF m 278 #[.val (.int p1), .val (.int p2), .val (.int p3), .val (.int p4), .val (.int (1 : Int32)), .val (.int z43_S0), .val (.int vi45), .val (.int vi46), .val (.int vi48), .val (.int vi49), .val (.int z51_S0), .val (.int vi53), .val (.int z55_L12), .val (.int vi57), .val (.ref b58), .val (.ref b59), .val (.int vi45), .val (.ref b74), .val (.int vi78)] []))
            refine own_go (fun t_ k => XS.iconst X80.here hx rfl (hb hby at_278) k) ?_
            show WP p e below _ (T80.setTop (mkF m 279 #[.val (.int p1), .val (.int p2), .val (.int p3), .val (.int p4), .val (.int (1 : Int32)), .val (.int z43_S0), .val (.int vi45), .val (.int vi46), .val (.int vi48), .val (.int vi49), .val (.int z51_S0), .val (.int vi53), .val (.int z55_L12), .val (.int vi57), .val (.ref b58), .val (.ref b59), .val (.int vi45), .val (.ref b74), .val (.int vi78)] [(.int (0 : Int32))]))
            exact J84 T80 _ X80 N80 e80 _ (by rw [if_neg hc271_82])
        by_cases hc91_54 : (0 : Int32) < vi53
        · refine own_go (fun t_ k => XS.ifNo X52.here hx rfl (hb hby at_91) rfl ((if0 _ _).trans (tlt hc91_54).2.2.2) k) ?_
          show WP p e below _ (T52.setTop (mkF m 94 #[.val (.int p1), .val (.int p2), .val (.int p3), .val (.int p4), .val (.int (1 : Int32)), .val (.int z43_S0), .val (.int vi45), .val (.int vi46), .val (.int vi48), .val (.int vi49), .val (.int z51_S0), .val (.int vi53), .val (.int (0 : Int32)), .unset, .unset, .unset, .unset, .unset, .unset] []))
          refine own_go (fun t_ k => XS.iload X52.here hx rfl (hb hby at_94) rfl k) ?_
          show WP p e below _ (T52.setTop (mkF m 96 #[.val (.int p1), .val (.int p2), .val (.int p3), .val (.int p4), .val (.int (1 : Int32)), .val (.int z43_S0), .val (.int vi45), .val (.int vi46), .val (.int vi48), .val (.int vi49), .val (.int z51_S0), .val (.int vi53), .val (.int (0 : Int32)), .unset, .unset, .unset, .unset, .unset, .unset] [(.int vi49)]))
          refine own_go (fun t_ k => XS.iconst X52.here hx rfl (hb hby at_96) k) ?_
          show WP p e below _ (T52.setTop (mkF m 97 #[.val (.int p1), .val (.int p2), .val (.int p3), .val (.int p4), .val (.int (1 : Int32)), .val (.int z43_S0), .val (.int vi45), .val (.int vi46), .val (.int vi48), .val (.int vi49), .val (.int z51_S0), .val (.int vi53), .val (.int (0 : Int32)), .unset, .unset, .unset, .unset, .unset, .unset] [(.int (1 : Int32)), (.int vi49)]))
          refine own_go (fun t_ k => XS.iadd X52.here hx rfl (hb hby at_97) rfl k) ?_
          show WP p e below _ (T52.setTop (mkF m 98 #[.val (.int p1), .val (.int p2), .val (.int p3), .val (.int p4), .val (.int (1 : Int32)), .val (.int z43_S0), .val (.int vi45), .val (.int vi46), .val (.int vi48), .val (.int vi49), .val (.int z51_S0), .val (.int vi53), .val (.int (0 : Int32)), .unset, .unset, .unset, .unset, .unset, .unset] [(.int (vi49 + (1 : Int32)))]))
          refine own_go (fun t_ k => XS.iload X52.here hx rfl (hb hby at_98) rfl k) ?_
          show WP p e below _ (T52.setTop (mkF m 100 #[.val (.int p1), .val (.int p2), .val (.int p3), .val (.int p4), .val (.int (1 : Int32)), .val (.int z43_S0), .val (.int vi45), .val (.int vi46), .val (.int vi48), .val (.int vi49), .val (.int z51_S0), .val (.int vi53), .val (.int (0 : Int32)), .unset, .unset, .unset, .unset, .unset, .unset] [(.int z51_S0), (.int (vi49 + (1 : Int32)))]))
          refine own_go (fun t_ k => XS.iadd X52.here hx rfl (hb hby at_100) rfl k) ?_
          show WP p e below _ (T52.setTop (mkF m 101 #[.val (.int p1), .val (.int p2), .val (.int p3), .val (.int p4), .val (.int (1 : Int32)), .val (.int z43_S0), .val (.int vi45), .val (.int vi46), .val (.int vi48), .val (.int vi49), .val (.int z51_S0), .val (.int vi53), .val (.int (0 : Int32)), .unset, .unset, .unset, .unset, .unset, .unset] [(.int ((vi49 + (1 : Int32)) + z51_S0))]))
          refine own_go (fun t_ k => XS.iloadN X52.here hx rfl (hb hby at_101) rfl k) ?_
          show WP p e below _ (T52.setTop (mkF m 102 #[.val (.int p1), .val (.int p2), .val (.int p3), .val (.int p4), .val (.int (1 : Int32)), .val (.int z43_S0), .val (.int vi45), .val (.int vi46), .val (.int vi48), .val (.int vi49), .val (.int z51_S0), .val (.int vi53), .val (.int (0 : Int32)), .unset, .unset, .unset, .unset, .unset, .unset] [(.int p2), (.int ((vi49 + (1 : Int32)) + z51_S0))]))
          refine own_go (fun t_ k => X52.ldcInt hx hown (mvT hZ (hw _ (List.mem_of_getElem? (i := 6) rfl))) (g := (mkF m 102 #[.val (.int p1), .val (.int p2), .val (.int p3), .val (.int p4), .val (.int (1 : Int32)), .val (.int z43_S0), .val (.int vi45), .val (.int vi46), .val (.int vi48), .val (.int vi49), .val (.int z51_S0), .val (.int vi53), .val (.int (0 : Int32)), .unset, .unset, .unset, .unset, .unset, .unset] [(.int p2), (.int ((vi49 + (1 : Int32)) + z51_S0))])) rfl (hb hby at_102) _ k) ?_
          show WP p e below _ (T52.setTop (mkF m 104 #[.val (.int p1), .val (.int p2), .val (.int p3), .val (.int p4), .val (.int (1 : Int32)), .val (.int z43_S0), .val (.int vi45), .val (.int vi46), .val (.int vi48), .val (.int vi49), .val (.int z51_S0), .val (.int vi53), .val (.int (0 : Int32)), .unset, .unset, .unset, .unset, .unset, .unset] [(.int (2147483647 : Int32)), (.int p2), (.int ((vi49 + (1 : Int32)) + z51_S0))]))
          refine own_go (fun t_ k => XS.iand X52.here hx rfl (hb hby at_104) rfl k) ?_
          show WP p e below _ (T52.setTop (mkF m 105 #[.val (.int p1), .val (.int p2), .val (.int p3), .val (.int p4), .val (.int (1 : Int32)), .val (.int z43_S0), .val (.int vi45), .val (.int vi46), .val (.int vi48), .val (.int vi49), .val (.int z51_S0), .val (.int vi53), .val (.int (0 : Int32)), .unset, .unset, .unset, .unset, .unset, .unset] [(.int (p2 &&& (2147483647 : Int32))), (.int ((vi49 + (1 : Int32)) + z51_S0))]))
          refine own_go (fun t_ k => XS.iload X52.here hx rfl (hb hby at_105) rfl k) ?_
          show WP p e below _ (T52.setTop (mkF m 107 #[.val (.int p1), .val (.int p2), .val (.int p3), .val (.int p4), .val (.int (1 : Int32)), .val (.int z43_S0), .val (.int vi45), .val (.int vi46), .val (.int vi48), .val (.int vi49), .val (.int z51_S0), .val (.int vi53), .val (.int (0 : Int32)), .unset, .unset, .unset, .unset, .unset, .unset] [(.int vi53), (.int (p2 &&& (2147483647 : Int32))), (.int ((vi49 + (1 : Int32)) + z51_S0))]))
          refine own_go (fun t_ k => iremM X52 hx rfl (hb hby at_107) rfl (fun q => by rw [q] at hc91_54; exact absurd hc91_54 (by decide)) k) ?_
          show WP p e below _ (T52.setTop (mkF m 108 #[.val (.int p1), .val (.int p2), .val (.int p3), .val (.int p4), .val (.int (1 : Int32)), .val (.int z43_S0), .val (.int vi45), .val (.int vi46), .val (.int vi48), .val (.int vi49), .val (.int z51_S0), .val (.int vi53), .val (.int (0 : Int32)), .unset, .unset, .unset, .unset, .unset, .unset] [(.int ((p2 &&& (2147483647 : Int32)) % vi53)), (.int ((vi49 + (1 : Int32)) + z51_S0))]))
          refine own_go (fun t_ k => XS.iadd X52.here hx rfl (hb hby at_108) rfl k) ?_
          show WP p e below _ (T52.setTop (mkF m 109 #[.val (.int p1), .val (.int p2), .val (.int p3), .val (.int p4), .val (.int (1 : Int32)), .val (.int z43_S0), .val (.int vi45), .val (.int vi46), .val (.int vi48), .val (.int vi49), .val (.int z51_S0), .val (.int vi53), .val (.int (0 : Int32)), .unset, .unset, .unset, .unset, .unset, .unset] [(.int (((vi49 + (1 : Int32)) + z51_S0) + ((p2 &&& (2147483647 : Int32)) % vi53)))]))
          refine own_go (fun t_ k => XS.istore X52.here hx rfl (hb hby at_109) rfl (l' := #[.val (.int p1), .val (.int p2), .val (.int p3), .val (.int p4), .val (.int (1 : Int32)), .val (.int z43_S0), .val (.int vi45), .val (.int vi46), .val (.int vi48), .val (.int vi49), .val (.int z51_S0), .val (.int vi53), .val (.int (((vi49 + (1 : Int32)) + z51_S0) + ((p2 &&& (2147483647 : Int32)) % vi53))), .unset, .unset, .unset, .unset, .unset, .unset]) rfl k) ?_
          show WP p e below _ (T52.setTop (mkF m 111 #[.val (.int p1), .val (.int p2), .val (.int p3), .val (.int p4), .val (.int (1 : Int32)), .val (.int z43_S0), .val (.int vi45), .val (.int vi46), .val (.int vi48), .val (.int vi49), .val (.int z51_S0), .val (.int vi53), .val (.int (((vi49 + (1 : Int32)) + z51_S0) + ((p2 &&& (2147483647 : Int32)) % vi53))), .unset, .unset, .unset, .unset, .unset, .unset] []))
          refine own_go (fun t_ k => XS.goto X52.here hx rfl (pc0 := 111) (pc' := 122) rfl (hb hby at_111) (by decide) (by decide) k) ?_
          show WP p e below _ (T52.setTop (mkF m 122 #[.val (.int p1), .val (.int p2), .val (.int p3), .val (.int p4), .val (.int (1 : Int32)), .val (.int z43_S0), .val (.int vi45), .val (.int vi46), .val (.int vi48), .val (.int vi49), .val (.int z51_S0), .val (.int vi53), .val (.int (((vi49 + (1 : Int32)) + z51_S0) + ((p2 &&& (2147483647 : Int32)) % vi53))), .unset, .unset, .unset, .unset, .unset, .unset] []))
          exact J56 T52 _ X52 N52 e52 _ (by rw [if_pos hc91_54])
        · refine own_go (fun t_ k => XS.ifYes X52.here hx rfl (pc0 := 91) (pc' := 114) rfl (hb hby at_91) rfl ((if0 _ _).trans (flt hc91_54).2.2.2) (by decide) (by decide) k) ?_
          show WP p e below _ (T52.setTop (mkF m 114 #[.val (.int p1), .val (.int p2), .val (.int p3), .val (.int p4), .val (.int (1 : Int32)), .val (.int z43_S0), .val (.int vi45), .val (.int vi46), .val (.int vi48), .val (.int vi49), .val (.int z51_S0), .val (.int vi53), .val (.int (0 : Int32)), .unset, .unset, .unset, .unset, .unset, .unset] []))
          refine own_go (fun t_ k => XS.iload X52.here hx rfl (hb hby at_114) rfl k) ?_
          show WP p e below _ (T52.setTop (mkF m 116 #[.val (.int p1), .val (.int p2), .val (.int p3), .val (.int p4), .val (.int (1 : Int32)), .val (.int z43_S0), .val (.int vi45), .val (.int vi46), .val (.int vi48), .val (.int vi49), .val (.int z51_S0), .val (.int vi53), .val (.int (0 : Int32)), .unset, .unset, .unset, .unset, .unset, .unset] [(.int (1 : Int32))]))
          refine own_go (fun t_ k => XS.iconst X52.here hx rfl (hb hby at_116) k) ?_
          show WP p e below _ (T52.setTop (mkF m 117 #[.val (.int p1), .val (.int p2), .val (.int p3), .val (.int p4), .val (.int (1 : Int32)), .val (.int z43_S0), .val (.int vi45), .val (.int vi46), .val (.int vi48), .val (.int vi49), .val (.int z51_S0), .val (.int vi53), .val (.int (0 : Int32)), .unset, .unset, .unset, .unset, .unset, .unset] [(.int (2 : Int32)), (.int (1 : Int32))]))
          have hc117_85 : ¬ ((1 : Int32) = (2 : Int32)) := by decide
          refine own_go (fun t_ k => XS.icmpYes X52.here hx rfl (pc0 := 117) (pc' := 122) rfl (hb hby at_117) rfl (feq hc117_85).2 (by decide) (by decide) k) ?_
          show WP p e below _ (T52.setTop (mkF m 122 #[.val (.int p1), .val (.int p2), .val (.int p3), .val (.int p4), .val (.int (1 : Int32)), .val (.int z43_S0), .val (.int vi45), .val (.int vi46), .val (.int vi48), .val (.int vi49), .val (.int z51_S0), .val (.int vi53), .val (.int (0 : Int32)), .unset, .unset, .unset, .unset, .unset, .unset] []))
          exact J56 T52 _ X52 N52 e52 _ (by rw [if_neg hc91_54])
      by_cases hc63_50 : z43_S0 = (0 : Int32)
      · refine own_go (fun t_ k => XS.ifYes X47.here hx rfl (pc0 := 63) (pc' := 70) rfl (hb hby at_63) rfl ((if0 _ _).trans (teq hc63_50).1) (by decide) (by decide) k) ?_
        show WP p e below _ (T47.setTop (mkF m 70 #[.val (.int p1), .val (.int p2), .val (.int p3), .val (.int p4), .val (.int (1 : Int32)), .val (.int z43_S0), .val (.int vi45), .val (.int vi46), .val (.int vi48), .val (.int vi49), .unset, .unset, .unset, .unset, .unset, .unset, .unset, .unset, .unset] []))
        refine own_go (fun t_ k => XS.iconst X47.here hx rfl (hb hby at_70) k) ?_
        show WP p e below _ (T47.setTop (mkF m 71 #[.val (.int p1), .val (.int p2), .val (.int p3), .val (.int p4), .val (.int (1 : Int32)), .val (.int z43_S0), .val (.int vi45), .val (.int vi46), .val (.int vi48), .val (.int vi49), .unset, .unset, .unset, .unset, .unset, .unset, .unset, .unset, .unset] [(.int (1 : Int32))]))
        exact J52 T47 _ X47 N47 e47 _ (by rw [if_pos hc63_50])
      · refine own_go (fun t_ k => XS.ifNo X47.here hx rfl (hb hby at_63) rfl ((if0 _ _).trans (feq hc63_50).1) k) ?_
        show WP p e below _ (T47.setTop (mkF m 66 #[.val (.int p1), .val (.int p2), .val (.int p3), .val (.int p4), .val (.int (1 : Int32)), .val (.int z43_S0), .val (.int vi45), .val (.int vi46), .val (.int vi48), .val (.int vi49), .unset, .unset, .unset, .unset, .unset, .unset, .unset, .unset, .unset] []))
        refine own_go (fun t_ k => XS.iconst X47.here hx rfl (hb hby at_66) k) ?_
        show WP p e below _ (T47.setTop (mkF m 67 #[.val (.int p1), .val (.int p2), .val (.int p3), .val (.int p4), .val (.int (1 : Int32)), .val (.int z43_S0), .val (.int vi45), .val (.int vi46), .val (.int vi48), .val (.int vi49), .unset, .unset, .unset, .unset, .unset, .unset, .unset, .unset, .unset] [(.int (0 : Int32))]))
        refine own_go (fun t_ k => XS.goto X47.here hx rfl (pc0 := 67) (pc' := 71) rfl (hb hby at_67) (by decide) (by decide) k) ?_
        show WP p e below _ (T47.setTop (mkF m 71 #[.val (.int p1), .val (.int p2), .val (.int p3), .val (.int p4), .val (.int (1 : Int32)), .val (.int z43_S0), .val (.int vi45), .val (.int vi46), .val (.int vi48), .val (.int vi49), .unset, .unset, .unset, .unset, .unset, .unset, .unset, .unset, .unset] [(.int (0 : Int32))]))
        exact J52 T47 _ X47 N47 e47 _ (by rw [if_neg hc63_50])
    by_cases hc12_42 : (p4 &&& (4 : Int32)) = (0 : Int32)
    · refine own_go (fun t_ k => XS.ifYes X1.here hx rfl (pc0 := 12) (pc' := 19) rfl (hb hby at_12) rfl ((if0 _ _).trans (teq hc12_42).1) (by decide) (by decide) k) ?_
      show WP p e below _ (T1.setTop (mkF m 19 #[.val (.int p1), .val (.int p2), .val (.int p3), .val (.int p4), .val (.int (1 : Int32)), .unset, .unset, .unset, .unset, .unset, .unset, .unset, .unset, .unset, .unset, .unset, .unset, .unset, .unset] []))
      refine own_go (fun t_ k => XS.iconst X1.here hx rfl (hb hby at_19) k) ?_
      show WP p e below _ (T1.setTop (mkF m 20 #[.val (.int p1), .val (.int p2), .val (.int p3), .val (.int p4), .val (.int (1 : Int32)), .unset, .unset, .unset, .unset, .unset, .unset, .unset, .unset, .unset, .unset, .unset, .unset, .unset, .unset] [(.int (0 : Int32))]))
      exact J44 T1 _ X1 N1 e1 _ (by rw [if_pos hc12_42])
    · refine own_go (fun t_ k => XS.ifNo X1.here hx rfl (hb hby at_12) rfl ((if0 _ _).trans (feq hc12_42).1) k) ?_
      show WP p e below _ (T1.setTop (mkF m 15 #[.val (.int p1), .val (.int p2), .val (.int p3), .val (.int p4), .val (.int (1 : Int32)), .unset, .unset, .unset, .unset, .unset, .unset, .unset, .unset, .unset, .unset, .unset, .unset, .unset, .unset] []))
      refine own_go (fun t_ k => XS.iconst X1.here hx rfl (hb hby at_15) k) ?_
      show WP p e below _ (T1.setTop (mkF m 16 #[.val (.int p1), .val (.int p2), .val (.int p3), .val (.int p4), .val (.int (1 : Int32)), .unset, .unset, .unset, .unset, .unset, .unset, .unset, .unset, .unset, .unset, .unset, .unset, .unset, .unset] [(.int (1 : Int32))]))
      refine own_go (fun t_ k => XS.goto X1.here hx rfl (pc0 := 16) (pc' := 20) rfl (hb hby at_16) (by decide) (by decide) k) ?_
      show WP p e below _ (T1.setTop (mkF m 20 #[.val (.int p1), .val (.int p2), .val (.int p3), .val (.int p4), .val (.int (1 : Int32)), .unset, .unset, .unset, .unset, .unset, .unset, .unset, .unset, .unset, .unset, .unset, .unset, .unset, .unset] [(.int (1 : Int32))]))
      exact J44 T1 _ X1 N1 e1 _ (by rw [if_neg hc12_42])
  · subst hs3
    show WP p e below _ (T1.setTop (mkF m 9 #[.val (.int p1), .val (.int p2), .val (.int p3), .val (.int p4), .val (.int (2 : Int32)), .unset, .unset, .unset, .unset, .unset, .unset, .unset, .unset, .unset, .unset, .unset, .unset, .unset, .unset] []))
    refine own_go (fun t_ k => XS.iloadN X1.here hx rfl (hb hby at_9) rfl k) ?_
    show WP p e below _ (T1.setTop (mkF m 10 #[.val (.int p1), .val (.int p2), .val (.int p3), .val (.int p4), .val (.int (2 : Int32)), .unset, .unset, .unset, .unset, .unset, .unset, .unset, .unset, .unset, .unset, .unset, .unset, .unset, .unset] [(.int p4)]))
    refine own_go (fun t_ k => XS.iconst X1.here hx rfl (hb hby at_10) k) ?_
    show WP p e below _ (T1.setTop (mkF m 11 #[.val (.int p1), .val (.int p2), .val (.int p3), .val (.int p4), .val (.int (2 : Int32)), .unset, .unset, .unset, .unset, .unset, .unset, .unset, .unset, .unset, .unset, .unset, .unset, .unset, .unset] [(.int (4 : Int32)), (.int p4)]))
    refine own_go (fun t_ k => XS.iand X1.here hx rfl (hb hby at_11) rfl k) ?_
    show WP p e below _ (T1.setTop (mkF m 12 #[.val (.int p1), .val (.int p2), .val (.int p3), .val (.int p4), .val (.int (2 : Int32)), .unset, .unset, .unset, .unset, .unset, .unset, .unset, .unset, .unset, .unset, .unset, .unset, .unset, .unset] [(.int (p4 &&& (4 : Int32)))]))
    have J88 : ∀ (T88 : State) (ls88 : List Loc) (X88 : Stand p l e room_1 s m #[(.int p1), (.int p2), (.int p3), (.int p4)] below meth c T88 ls88 0 0) (N88 : Fr n0 ls88) (e88 : T88.heap = h0) (z87_S0 : Int32) (hz87_S0 : z87_S0 = (if (p4 &&& (4 : Int32)) = (0 : Int32) then (0 : Int32) else (1 : Int32))), WP p e below (GG (Q0 n0) s room_1.cells room_1.slots) (T88.setTop (mkF m 20 #[.val (.int p1), .val (.int p2), .val (.int p3), .val (.int p4), .val (.int (2 : Int32)), .unset, .unset, .unset, .unset, .unset, .unset, .unset, .unset, .unset, .unset, .unset, .unset, .unset, .unset] [(.int z87_S0)])) := by
      intro T88 ls88 X88 N88 e88 z87_S0 hz87_S0
      show WP p e below _ (T88.setTop (mkF m 20 #[.val (.int p1), .val (.int p2), .val (.int p3), .val (.int p4), .val (.int (2 : Int32)), .unset, .unset, .unset, .unset, .unset, .unset, .unset, .unset, .unset, .unset, .unset, .unset, .unset, .unset] [(.int z87_S0)]))
      refine own_go (fun t_ k => XS.istore X88.here hx rfl (hb hby at_20) rfl (l' := #[.val (.int p1), .val (.int p2), .val (.int p3), .val (.int p4), .val (.int (2 : Int32)), .val (.int z87_S0), .unset, .unset, .unset, .unset, .unset, .unset, .unset, .unset, .unset, .unset, .unset, .unset, .unset]) rfl k) ?_
      show WP p e below _ (T88.setTop (mkF m 22 #[.val (.int p1), .val (.int p2), .val (.int p3), .val (.int p4), .val (.int (2 : Int32)), .val (.int z87_S0), .unset, .unset, .unset, .unset, .unset, .unset, .unset, .unset, .unset, .unset, .unset, .unset, .unset] []))
      refine own_go (fun t_ k => XS.iconst X88.here hx rfl (hb hby at_22) k) ?_
      show WP p e below _ (T88.setTop (mkF m 23 #[.val (.int p1), .val (.int p2), .val (.int p3), .val (.int p4), .val (.int (2 : Int32)), .val (.int z87_S0), .unset, .unset, .unset, .unset, .unset, .unset, .unset, .unset, .unset, .unset, .unset, .unset, .unset] [(.int (1 : Int32))]))
      refine own_go (fun t_ k => XS.iloadN X88.here hx rfl (hb hby at_23) rfl k) ?_
      show WP p e below _ (T88.setTop (mkF m 24 #[.val (.int p1), .val (.int p2), .val (.int p3), .val (.int p4), .val (.int (2 : Int32)), .val (.int z87_S0), .unset, .unset, .unset, .unset, .unset, .unset, .unset, .unset, .unset, .unset, .unset, .unset, .unset] [(.int p3), (.int (1 : Int32))]))
      refine own_go (fun t_ k => XS.iconst X88.here hx rfl (hb hby at_24) k) ?_
      show WP p e below _ (T88.setTop (mkF m 25 #[.val (.int p1), .val (.int p2), .val (.int p3), .val (.int p4), .val (.int (2 : Int32)), .val (.int z87_S0), .unset, .unset, .unset, .unset, .unset, .unset, .unset, .unset, .unset, .unset, .unset, .unset, .unset] [(.int (3 : Int32)), (.int p3), (.int (1 : Int32))]))
      refine own_go (fun t_ k => XS.iand X88.here hx rfl (hb hby at_25) rfl k) ?_
      show WP p e below _ (T88.setTop (mkF m 26 #[.val (.int p1), .val (.int p2), .val (.int p3), .val (.int p4), .val (.int (2 : Int32)), .val (.int z87_S0), .unset, .unset, .unset, .unset, .unset, .unset, .unset, .unset, .unset, .unset, .unset, .unset, .unset] [(.int (p3 &&& (3 : Int32))), (.int (1 : Int32))]))
      refine own_go (fun t_ k => XS.iadd X88.here hx rfl (hb hby at_26) rfl k) ?_
      show WP p e below _ (T88.setTop (mkF m 27 #[.val (.int p1), .val (.int p2), .val (.int p3), .val (.int p4), .val (.int (2 : Int32)), .val (.int z87_S0), .unset, .unset, .unset, .unset, .unset, .unset, .unset, .unset, .unset, .unset, .unset, .unset, .unset] [(.int ((1 : Int32) + (p3 &&& (3 : Int32))))]))
      refine own_go (fun t_ k => XS.istore X88.here hx rfl (hb hby at_27) rfl (l' := #[.val (.int p1), .val (.int p2), .val (.int p3), .val (.int p4), .val (.int (2 : Int32)), .val (.int z87_S0), .val (.int ((1 : Int32) + (p3 &&& (3 : Int32)))), .unset, .unset, .unset, .unset, .unset, .unset, .unset, .unset, .unset, .unset, .unset, .unset]) rfl k) ?_
      show WP p e below _ (T88.setTop (mkF m 29 #[.val (.int p1), .val (.int p2), .val (.int p3), .val (.int p4), .val (.int (2 : Int32)), .val (.int z87_S0), .val (.int ((1 : Int32) + (p3 &&& (3 : Int32)))), .unset, .unset, .unset, .unset, .unset, .unset, .unset, .unset, .unset, .unset, .unset, .unset] []))
      generalize he89 : ((1 : Int32) + (p3 &&& (3 : Int32))) = vi89
      show WP p e below _ (T88.setTop (mkF m 29 #[.val (.int p1), .val (.int p2), .val (.int p3), .val (.int p4), .val (.int (2 : Int32)), .val (.int z87_S0), .val (.int vi89), .unset, .unset, .unset, .unset, .unset, .unset, .unset, .unset, .unset, .unset, .unset, .unset] []))
      refine own_go (fun t_ k => XS.iconst X88.here hx rfl (hb hby at_29) k) ?_
      show WP p e below _ (T88.setTop (mkF m 30 #[.val (.int p1), .val (.int p2), .val (.int p3), .val (.int p4), .val (.int (2 : Int32)), .val (.int z87_S0), .val (.int vi89), .unset, .unset, .unset, .unset, .unset, .unset, .unset, .unset, .unset, .unset, .unset, .unset] [(.int (1 : Int32))]))
      refine own_go (fun t_ k => XS.iloadN X88.here hx rfl (hb hby at_30) rfl k) ?_
      show WP p e below _ (T88.setTop (mkF m 31 #[.val (.int p1), .val (.int p2), .val (.int p3), .val (.int p4), .val (.int (2 : Int32)), .val (.int z87_S0), .val (.int vi89), .unset, .unset, .unset, .unset, .unset, .unset, .unset, .unset, .unset, .unset, .unset, .unset] [(.int p3), (.int (1 : Int32))]))
      refine own_go (fun t_ k => XS.iconst X88.here hx rfl (hb hby at_31) k) ?_
      show WP p e below _ (T88.setTop (mkF m 32 #[.val (.int p1), .val (.int p2), .val (.int p3), .val (.int p4), .val (.int (2 : Int32)), .val (.int z87_S0), .val (.int vi89), .unset, .unset, .unset, .unset, .unset, .unset, .unset, .unset, .unset, .unset, .unset, .unset] [(.int (2 : Int32)), (.int p3), (.int (1 : Int32))]))
      refine own_go (fun t_ k => XS.iushr X88.here hx rfl (hb hby at_32) rfl k) ?_
      show WP p e below _ (T88.setTop (mkF m 33 #[.val (.int p1), .val (.int p2), .val (.int p3), .val (.int p4), .val (.int (2 : Int32)), .val (.int z87_S0), .val (.int vi89), .unset, .unset, .unset, .unset, .unset, .unset, .unset, .unset, .unset, .unset, .unset, .unset] [(.int ((p3.toUInt32 >>> ((2 : Int32) &&& 31).toUInt32).toInt32)), (.int (1 : Int32))]))
      refine own_go (fun t_ k => XS.iconst X88.here hx rfl (hb hby at_33) k) ?_
      show WP p e below _ (T88.setTop (mkF m 34 #[.val (.int p1), .val (.int p2), .val (.int p3), .val (.int p4), .val (.int (2 : Int32)), .val (.int z87_S0), .val (.int vi89), .unset, .unset, .unset, .unset, .unset, .unset, .unset, .unset, .unset, .unset, .unset, .unset] [(.int (3 : Int32)), (.int ((p3.toUInt32 >>> ((2 : Int32) &&& 31).toUInt32).toInt32)), (.int (1 : Int32))]))
      refine own_go (fun t_ k => XS.iand X88.here hx rfl (hb hby at_34) rfl k) ?_
      show WP p e below _ (T88.setTop (mkF m 35 #[.val (.int p1), .val (.int p2), .val (.int p3), .val (.int p4), .val (.int (2 : Int32)), .val (.int z87_S0), .val (.int vi89), .unset, .unset, .unset, .unset, .unset, .unset, .unset, .unset, .unset, .unset, .unset, .unset] [(.int (((p3.toUInt32 >>> ((2 : Int32) &&& 31).toUInt32).toInt32) &&& (3 : Int32))), (.int (1 : Int32))]))
      refine own_go (fun t_ k => XS.iadd X88.here hx rfl (hb hby at_35) rfl k) ?_
      show WP p e below _ (T88.setTop (mkF m 36 #[.val (.int p1), .val (.int p2), .val (.int p3), .val (.int p4), .val (.int (2 : Int32)), .val (.int z87_S0), .val (.int vi89), .unset, .unset, .unset, .unset, .unset, .unset, .unset, .unset, .unset, .unset, .unset, .unset] [(.int ((1 : Int32) + (((p3.toUInt32 >>> ((2 : Int32) &&& 31).toUInt32).toInt32) &&& (3 : Int32))))]))
      refine own_go (fun t_ k => XS.istore X88.here hx rfl (hb hby at_36) rfl (l' := #[.val (.int p1), .val (.int p2), .val (.int p3), .val (.int p4), .val (.int (2 : Int32)), .val (.int z87_S0), .val (.int vi89), .val (.int ((1 : Int32) + (((p3.toUInt32 >>> ((2 : Int32) &&& 31).toUInt32).toInt32) &&& (3 : Int32)))), .unset, .unset, .unset, .unset, .unset, .unset, .unset, .unset, .unset, .unset, .unset]) rfl k) ?_
      show WP p e below _ (T88.setTop (mkF m 38 #[.val (.int p1), .val (.int p2), .val (.int p3), .val (.int p4), .val (.int (2 : Int32)), .val (.int z87_S0), .val (.int vi89), .val (.int ((1 : Int32) + (((p3.toUInt32 >>> ((2 : Int32) &&& 31).toUInt32).toInt32) &&& (3 : Int32)))), .unset, .unset, .unset, .unset, .unset, .unset, .unset, .unset, .unset, .unset, .unset] []))
      generalize he90 : ((1 : Int32) + (((p3.toUInt32 >>> ((2 : Int32) &&& 31).toUInt32).toInt32) &&& (3 : Int32))) = vi90
      show WP p e below _ (T88.setTop (mkF m 38 #[.val (.int p1), .val (.int p2), .val (.int p3), .val (.int p4), .val (.int (2 : Int32)), .val (.int z87_S0), .val (.int vi89), .val (.int vi90), .unset, .unset, .unset, .unset, .unset, .unset, .unset, .unset, .unset, .unset, .unset] []))
      refine own_go (fun t_ k => XS.iloadN X88.here hx rfl (hb hby at_38) rfl k) ?_
      show WP p e below _ (T88.setTop (mkF m 39 #[.val (.int p1), .val (.int p2), .val (.int p3), .val (.int p4), .val (.int (2 : Int32)), .val (.int z87_S0), .val (.int vi89), .val (.int vi90), .unset, .unset, .unset, .unset, .unset, .unset, .unset, .unset, .unset, .unset, .unset] [(.int p1)]))
      refine own_go (fun t_ k => X88.ldcInt hx hown (mvT hZ (hw _ (List.mem_of_getElem? (i := 4) rfl))) (g := (mkF m 39 #[.val (.int p1), .val (.int p2), .val (.int p3), .val (.int p4), .val (.int (2 : Int32)), .val (.int z87_S0), .val (.int vi89), .val (.int vi90), .unset, .unset, .unset, .unset, .unset, .unset, .unset, .unset, .unset, .unset, .unset] [(.int p1)])) rfl (hb hby at_39) _ k) ?_
      show WP p e below _ (T88.setTop (mkF m 41 #[.val (.int p1), .val (.int p2), .val (.int p3), .val (.int p4), .val (.int (2 : Int32)), .val (.int z87_S0), .val (.int vi89), .val (.int vi90), .unset, .unset, .unset, .unset, .unset, .unset, .unset, .unset, .unset, .unset, .unset] [(.int (65535 : Int32)), (.int p1)]))
      refine own_go (fun t_ k => XS.iand X88.here hx rfl (hb hby at_41) rfl k) ?_
      show WP p e below _ (T88.setTop (mkF m 42 #[.val (.int p1), .val (.int p2), .val (.int p3), .val (.int p4), .val (.int (2 : Int32)), .val (.int z87_S0), .val (.int vi89), .val (.int vi90), .unset, .unset, .unset, .unset, .unset, .unset, .unset, .unset, .unset, .unset, .unset] [(.int (p1 &&& (65535 : Int32)))]))
      refine own_go (fun t_ k => X88.ldcInt hx hown (mvT hZ (hw _ (List.mem_of_getElem? (i := 5) rfl))) (g := (mkF m 42 #[.val (.int p1), .val (.int p2), .val (.int p3), .val (.int p4), .val (.int (2 : Int32)), .val (.int z87_S0), .val (.int vi89), .val (.int vi90), .unset, .unset, .unset, .unset, .unset, .unset, .unset, .unset, .unset, .unset, .unset] [(.int (p1 &&& (65535 : Int32)))])) rfl (hb hby at_42) _ k) ?_
      show WP p e below _ (T88.setTop (mkF m 44 #[.val (.int p1), .val (.int p2), .val (.int p3), .val (.int p4), .val (.int (2 : Int32)), .val (.int z87_S0), .val (.int vi89), .val (.int vi90), .unset, .unset, .unset, .unset, .unset, .unset, .unset, .unset, .unset, .unset, .unset] [(.int (65536 : Int32)), (.int (p1 &&& (65535 : Int32)))]))
      refine own_go (fun t_ k => XS.iload X88.here hx rfl (hb hby at_44) rfl k) ?_
      show WP p e below _ (T88.setTop (mkF m 46 #[.val (.int p1), .val (.int p2), .val (.int p3), .val (.int p4), .val (.int (2 : Int32)), .val (.int z87_S0), .val (.int vi89), .val (.int vi90), .unset, .unset, .unset, .unset, .unset, .unset, .unset, .unset, .unset, .unset, .unset] [(.int vi89), (.int (65536 : Int32)), (.int (p1 &&& (65535 : Int32)))]))
      refine own_go (fun t_ k => XS.isub X88.here hx rfl (hb hby at_46) rfl k) ?_
      show WP p e below _ (T88.setTop (mkF m 47 #[.val (.int p1), .val (.int p2), .val (.int p3), .val (.int p4), .val (.int (2 : Int32)), .val (.int z87_S0), .val (.int vi89), .val (.int vi90), .unset, .unset, .unset, .unset, .unset, .unset, .unset, .unset, .unset, .unset, .unset] [(.int ((65536 : Int32) - vi89)), (.int (p1 &&& (65535 : Int32)))]))
      obtain ⟨_, _, ⟨T91, L91, k91, n91⟩, -, X91, ⟨Lc91, hQ91, l91, y91, z91⟩, st91⟩ := Jvm.LawKit.callS X88 hx (y := (⟨"java/lang/Math", "min", "(II)I"⟩ : MethodName)) hown (mvT hZ (hw _ (List.mem_of_getElem? (i := 0) rfl))) (mvT hZ (hw _ (List.mem_of_getElem? (i := 1) rfl))) (mvT hZ (hw _ (List.mem_of_getElem? (i := 2) rfl))) (mvT hZ (hw _ (List.mem_of_getElem? (i := 3) rfl))) (by decide) (backOf (W := 0) (rm1 l Z a0 hw [] (p1 &&& (65535 : Int32)) ((65536 : Int32) - vi89) h0 n0) hZ (hw _ (List.mem_of_getElem? (i := 3) rfl)) (hw _ (List.mem_of_getElem? (i := 2) rfl)) (by decide) (by decide)) (g := (mkF m 47 #[.val (.int p1), .val (.int p2), .val (.int p3), .val (.int p4), .val (.int (2 : Int32)), .val (.int z87_S0), .val (.int vi89), .val (.int vi90), .unset, .unset, .unset, .unset, .unset, .unset, .unset, .unset, .unset, .unset, .unset] [(.int ((65536 : Int32) - vi89)), (.int (p1 &&& (65535 : Int32)))])) rfl (by rw [hml]; rfl) (argsL := [(.int (p1 &&& (65535 : Int32))), (.int ((65536 : Int32) - vi89))]) (rest := []) (lenOf pd_1 rfl) rfl (by show 2 * 0 + _ ≤ _; exact Nat.le_of_eq rfl) (hb hby at_47) (fun _ _ => ⟨rfl, e88, (by decide : 0 + 0 ≤ _), (by decide : 0 + 0 ≤ _)⟩)
      dsimp only [Pt.U, Pt.locs, Pt.cells, Pt.slots] at X91 l91 y91 z91 st91 hQ91
      subst l91 y91 z91
      obtain ⟨rfl, N91q, e91⟩ := hQ91
      have N91 := Fr.app N88 N91q
      replace X91 : Stand p l e room_1 s m _ below meth c T91 _ 0 0 := X91
      refine own_go st91 ?_
      show WP p e below _ (T91.setTop (mkF m 50 #[.val (.int p1), .val (.int p2), .val (.int p3), .val (.int p4), .val (.int (2 : Int32)), .val (.int z87_S0), .val (.int vi89), .val (.int vi90), .unset, .unset, .unset, .unset, .unset, .unset, .unset, .unset, .unset, .unset, .unset] [(.int (f1 (p1 &&& (65535 : Int32)) ((65536 : Int32) - vi89)))]))
      generalize he92 : (f1 (p1 &&& (65535 : Int32)) ((65536 : Int32) - vi89)) = vi92
      show WP p e below _ (T91.setTop (mkF m 50 #[.val (.int p1), .val (.int p2), .val (.int p3), .val (.int p4), .val (.int (2 : Int32)), .val (.int z87_S0), .val (.int vi89), .val (.int vi90), .unset, .unset, .unset, .unset, .unset, .unset, .unset, .unset, .unset, .unset, .unset] [(.int vi92)]))
      refine own_go (fun t_ k => XS.istore X91.here hx rfl (hb hby at_50) rfl (l' := #[.val (.int p1), .val (.int p2), .val (.int p3), .val (.int p4), .val (.int (2 : Int32)), .val (.int z87_S0), .val (.int vi89), .val (.int vi90), .val (.int vi92), .unset, .unset, .unset, .unset, .unset, .unset, .unset, .unset, .unset, .unset]) rfl k) ?_
      show WP p e below _ (T91.setTop (mkF m 52 #[.val (.int p1), .val (.int p2), .val (.int p3), .val (.int p4), .val (.int (2 : Int32)), .val (.int z87_S0), .val (.int vi89), .val (.int vi90), .val (.int vi92), .unset, .unset, .unset, .unset, .unset, .unset, .unset, .unset, .unset, .unset] []))
      refine own_go (fun t_ k => XS.iload X91.here hx rfl (hb hby at_52) rfl k) ?_
      show WP p e below _ (T91.setTop (mkF m 54 #[.val (.int p1), .val (.int p2), .val (.int p3), .val (.int p4), .val (.int (2 : Int32)), .val (.int z87_S0), .val (.int vi89), .val (.int vi90), .val (.int vi92), .unset, .unset, .unset, .unset, .unset, .unset, .unset, .unset, .unset, .unset] [(.int vi92)]))
      refine own_go (fun t_ k => XS.iload X91.here hx rfl (hb hby at_54) rfl k) ?_
      show WP p e below _ (T91.setTop (mkF m 56 #[.val (.int p1), .val (.int p2), .val (.int p3), .val (.int p4), .val (.int (2 : Int32)), .val (.int z87_S0), .val (.int vi89), .val (.int vi90), .val (.int vi92), .unset, .unset, .unset, .unset, .unset, .unset, .unset, .unset, .unset, .unset] [(.int vi89), (.int vi92)]))
      refine own_go (fun t_ k => XS.iadd X91.here hx rfl (hb hby at_56) rfl k) ?_
      show WP p e below _ (T91.setTop (mkF m 57 #[.val (.int p1), .val (.int p2), .val (.int p3), .val (.int p4), .val (.int (2 : Int32)), .val (.int z87_S0), .val (.int vi89), .val (.int vi90), .val (.int vi92), .unset, .unset, .unset, .unset, .unset, .unset, .unset, .unset, .unset, .unset] [(.int (vi92 + vi89))]))
      refine own_go (fun t_ k => XS.iconst X91.here hx rfl (hb hby at_57) k) ?_
      show WP p e below _ (T91.setTop (mkF m 58 #[.val (.int p1), .val (.int p2), .val (.int p3), .val (.int p4), .val (.int (2 : Int32)), .val (.int z87_S0), .val (.int vi89), .val (.int vi90), .val (.int vi92), .unset, .unset, .unset, .unset, .unset, .unset, .unset, .unset, .unset, .unset] [(.int (1 : Int32)), (.int (vi92 + vi89))]))
      refine own_go (fun t_ k => XS.isub X91.here hx rfl (hb hby at_58) rfl k) ?_
      show WP p e below _ (T91.setTop (mkF m 59 #[.val (.int p1), .val (.int p2), .val (.int p3), .val (.int p4), .val (.int (2 : Int32)), .val (.int z87_S0), .val (.int vi89), .val (.int vi90), .val (.int vi92), .unset, .unset, .unset, .unset, .unset, .unset, .unset, .unset, .unset, .unset] [(.int ((vi92 + vi89) - (1 : Int32)))]))
      refine own_go (fun t_ k => XS.istore X91.here hx rfl (hb hby at_59) rfl (l' := #[.val (.int p1), .val (.int p2), .val (.int p3), .val (.int p4), .val (.int (2 : Int32)), .val (.int z87_S0), .val (.int vi89), .val (.int vi90), .val (.int vi92), .val (.int ((vi92 + vi89) - (1 : Int32))), .unset, .unset, .unset, .unset, .unset, .unset, .unset, .unset, .unset]) rfl k) ?_
      show WP p e below _ (T91.setTop (mkF m 61 #[.val (.int p1), .val (.int p2), .val (.int p3), .val (.int p4), .val (.int (2 : Int32)), .val (.int z87_S0), .val (.int vi89), .val (.int vi90), .val (.int vi92), .val (.int ((vi92 + vi89) - (1 : Int32))), .unset, .unset, .unset, .unset, .unset, .unset, .unset, .unset, .unset] []))
      generalize he93 : ((vi92 + vi89) - (1 : Int32)) = vi93
      show WP p e below _ (T91.setTop (mkF m 61 #[.val (.int p1), .val (.int p2), .val (.int p3), .val (.int p4), .val (.int (2 : Int32)), .val (.int z87_S0), .val (.int vi89), .val (.int vi90), .val (.int vi92), .val (.int vi93), .unset, .unset, .unset, .unset, .unset, .unset, .unset, .unset, .unset] []))
      refine own_go (fun t_ k => XS.iload X91.here hx rfl (hb hby at_61) rfl k) ?_
      show WP p e below _ (T91.setTop (mkF m 63 #[.val (.int p1), .val (.int p2), .val (.int p3), .val (.int p4), .val (.int (2 : Int32)), .val (.int z87_S0), .val (.int vi89), .val (.int vi90), .val (.int vi92), .val (.int vi93), .unset, .unset, .unset, .unset, .unset, .unset, .unset, .unset, .unset] [(.int z87_S0)]))
      have J96 : ∀ (T96 : State) (ls96 : List Loc) (X96 : Stand p l e room_1 s m #[(.int p1), (.int p2), (.int p3), (.int p4)] below meth c T96 ls96 0 0) (N96 : Fr n0 ls96) (e96 : T96.heap = h0) (z95_S0 : Int32) (hz95_S0 : z95_S0 = (if z87_S0 = (0 : Int32) then (1 : Int32) else (0 : Int32))), WP p e below (GG (Q0 n0) s room_1.cells room_1.slots) (T96.setTop (mkF m 71 #[.val (.int p1), .val (.int p2), .val (.int p3), .val (.int p4), .val (.int (2 : Int32)), .val (.int z87_S0), .val (.int vi89), .val (.int vi90), .val (.int vi92), .val (.int vi93), .unset, .unset, .unset, .unset, .unset, .unset, .unset, .unset, .unset] [(.int z95_S0)])) := by
        intro T96 ls96 X96 N96 e96 z95_S0 hz95_S0
        show WP p e below _ (T96.setTop (mkF m 71 #[.val (.int p1), .val (.int p2), .val (.int p3), .val (.int p4), .val (.int (2 : Int32)), .val (.int z87_S0), .val (.int vi89), .val (.int vi90), .val (.int vi92), .val (.int vi93), .unset, .unset, .unset, .unset, .unset, .unset, .unset, .unset, .unset] [(.int z95_S0)]))
        refine own_go (fun t_ k => XS.istore X96.here hx rfl (hb hby at_71) rfl (l' := #[.val (.int p1), .val (.int p2), .val (.int p3), .val (.int p4), .val (.int (2 : Int32)), .val (.int z87_S0), .val (.int vi89), .val (.int vi90), .val (.int vi92), .val (.int vi93), .val (.int z95_S0), .unset, .unset, .unset, .unset, .unset, .unset, .unset, .unset]) rfl k) ?_
        show WP p e below _ (T96.setTop (mkF m 73 #[.val (.int p1), .val (.int p2), .val (.int p3), .val (.int p4), .val (.int (2 : Int32)), .val (.int z87_S0), .val (.int vi89), .val (.int vi90), .val (.int vi92), .val (.int vi93), .val (.int z95_S0), .unset, .unset, .unset, .unset, .unset, .unset, .unset, .unset] []))
        refine own_go (fun t_ k => X96.ldcInt hx hown (mvT hZ (hw _ (List.mem_of_getElem? (i := 5) rfl))) (g := (mkF m 73 #[.val (.int p1), .val (.int p2), .val (.int p3), .val (.int p4), .val (.int (2 : Int32)), .val (.int z87_S0), .val (.int vi89), .val (.int vi90), .val (.int vi92), .val (.int vi93), .val (.int z95_S0), .unset, .unset, .unset, .unset, .unset, .unset, .unset, .unset] [])) rfl (hb hby at_73) _ k) ?_
        show WP p e below _ (T96.setTop (mkF m 75 #[.val (.int p1), .val (.int p2), .val (.int p3), .val (.int p4), .val (.int (2 : Int32)), .val (.int z87_S0), .val (.int vi89), .val (.int vi90), .val (.int vi92), .val (.int vi93), .val (.int z95_S0), .unset, .unset, .unset, .unset, .unset, .unset, .unset, .unset] [(.int (65536 : Int32))]))
        refine own_go (fun t_ k => XS.iload X96.here hx rfl (hb hby at_75) rfl k) ?_
        show WP p e below _ (T96.setTop (mkF m 77 #[.val (.int p1), .val (.int p2), .val (.int p3), .val (.int p4), .val (.int (2 : Int32)), .val (.int z87_S0), .val (.int vi89), .val (.int vi90), .val (.int vi92), .val (.int vi93), .val (.int z95_S0), .unset, .unset, .unset, .unset, .unset, .unset, .unset, .unset] [(.int vi90), (.int (65536 : Int32))]))
        refine own_go (fun t_ k => XS.isub X96.here hx rfl (hb hby at_77) rfl k) ?_
        show WP p e below _ (T96.setTop (mkF m 78 #[.val (.int p1), .val (.int p2), .val (.int p3), .val (.int p4), .val (.int (2 : Int32)), .val (.int z87_S0), .val (.int vi89), .val (.int vi90), .val (.int vi92), .val (.int vi93), .val (.int z95_S0), .unset, .unset, .unset, .unset, .unset, .unset, .unset, .unset] [(.int ((65536 : Int32) - vi90))]))
        refine own_go (fun t_ k => XS.iload X96.here hx rfl (hb hby at_78) rfl k) ?_
        show WP p e below _ (T96.setTop (mkF m 80 #[.val (.int p1), .val (.int p2), .val (.int p3), .val (.int p4), .val (.int (2 : Int32)), .val (.int z87_S0), .val (.int vi89), .val (.int vi90), .val (.int vi92), .val (.int vi93), .val (.int z95_S0), .unset, .unset, .unset, .unset, .unset, .unset, .unset, .unset] [(.int vi93), (.int ((65536 : Int32) - vi90))]))
        refine own_go (fun t_ k => XS.isub X96.here hx rfl (hb hby at_80) rfl k) ?_
        show WP p e below _ (T96.setTop (mkF m 81 #[.val (.int p1), .val (.int p2), .val (.int p3), .val (.int p4), .val (.int (2 : Int32)), .val (.int z87_S0), .val (.int vi89), .val (.int vi90), .val (.int vi92), .val (.int vi93), .val (.int z95_S0), .unset, .unset, .unset, .unset, .unset, .unset, .unset, .unset] [(.int (((65536 : Int32) - vi90) - vi93))]))
        refine own_go (fun t_ k => XS.iload X96.here hx rfl (hb hby at_81) rfl k) ?_
        show WP p e below _ (T96.setTop (mkF m 83 #[.val (.int p1), .val (.int p2), .val (.int p3), .val (.int p4), .val (.int (2 : Int32)), .val (.int z87_S0), .val (.int vi89), .val (.int vi90), .val (.int vi92), .val (.int vi93), .val (.int z95_S0), .unset, .unset, .unset, .unset, .unset, .unset, .unset, .unset] [(.int z95_S0), (.int (((65536 : Int32) - vi90) - vi93))]))
        refine own_go (fun t_ k => XS.isub X96.here hx rfl (hb hby at_83) rfl k) ?_
        show WP p e below _ (T96.setTop (mkF m 84 #[.val (.int p1), .val (.int p2), .val (.int p3), .val (.int p4), .val (.int (2 : Int32)), .val (.int z87_S0), .val (.int vi89), .val (.int vi90), .val (.int vi92), .val (.int vi93), .val (.int z95_S0), .unset, .unset, .unset, .unset, .unset, .unset, .unset, .unset] [(.int ((((65536 : Int32) - vi90) - vi93) - z95_S0))]))
        refine own_go (fun t_ k => XS.istore X96.here hx rfl (hb hby at_84) rfl (l' := #[.val (.int p1), .val (.int p2), .val (.int p3), .val (.int p4), .val (.int (2 : Int32)), .val (.int z87_S0), .val (.int vi89), .val (.int vi90), .val (.int vi92), .val (.int vi93), .val (.int z95_S0), .val (.int ((((65536 : Int32) - vi90) - vi93) - z95_S0)), .unset, .unset, .unset, .unset, .unset, .unset, .unset]) rfl k) ?_
        show WP p e below _ (T96.setTop (mkF m 86 #[.val (.int p1), .val (.int p2), .val (.int p3), .val (.int p4), .val (.int (2 : Int32)), .val (.int z87_S0), .val (.int vi89), .val (.int vi90), .val (.int vi92), .val (.int vi93), .val (.int z95_S0), .val (.int ((((65536 : Int32) - vi90) - vi93) - z95_S0)), .unset, .unset, .unset, .unset, .unset, .unset, .unset] []))
        generalize he97 : ((((65536 : Int32) - vi90) - vi93) - z95_S0) = vi97
        show WP p e below _ (T96.setTop (mkF m 86 #[.val (.int p1), .val (.int p2), .val (.int p3), .val (.int p4), .val (.int (2 : Int32)), .val (.int z87_S0), .val (.int vi89), .val (.int vi90), .val (.int vi92), .val (.int vi93), .val (.int z95_S0), .val (.int vi97), .unset, .unset, .unset, .unset, .unset, .unset, .unset] []))
        refine own_go (fun t_ k => XS.iconst X96.here hx rfl (hb hby at_86) k) ?_
        show WP p e below _ (T96.setTop (mkF m 87 #[.val (.int p1), .val (.int p2), .val (.int p3), .val (.int p4), .val (.int (2 : Int32)), .val (.int z87_S0), .val (.int vi89), .val (.int vi90), .val (.int vi92), .val (.int vi93), .val (.int z95_S0), .val (.int vi97), .unset, .unset, .unset, .unset, .unset, .unset, .unset] [(.int (0 : Int32))]))
        refine own_go (fun t_ k => XS.istore X96.here hx rfl (hb hby at_87) rfl (l' := #[.val (.int p1), .val (.int p2), .val (.int p3), .val (.int p4), .val (.int (2 : Int32)), .val (.int z87_S0), .val (.int vi89), .val (.int vi90), .val (.int vi92), .val (.int vi93), .val (.int z95_S0), .val (.int vi97), .val (.int (0 : Int32)), .unset, .unset, .unset, .unset, .unset, .unset]) rfl k) ?_
        show WP p e below _ (T96.setTop (mkF m 89 #[.val (.int p1), .val (.int p2), .val (.int p3), .val (.int p4), .val (.int (2 : Int32)), .val (.int z87_S0), .val (.int vi89), .val (.int vi90), .val (.int vi92), .val (.int vi93), .val (.int z95_S0), .val (.int vi97), .val (.int (0 : Int32)), .unset, .unset, .unset, .unset, .unset, .unset] []))
        refine own_go (fun t_ k => XS.iload X96.here hx rfl (hb hby at_89) rfl k) ?_
        show WP p e below _ (T96.setTop (mkF m 91 #[.val (.int p1), .val (.int p2), .val (.int p3), .val (.int p4), .val (.int (2 : Int32)), .val (.int z87_S0), .val (.int vi89), .val (.int vi90), .val (.int vi92), .val (.int vi93), .val (.int z95_S0), .val (.int vi97), .val (.int (0 : Int32)), .unset, .unset, .unset, .unset, .unset, .unset] [(.int vi97)]))
        by_cases hc91_98 : (0 : Int32) < vi97
        · refine own_go (fun t_ k => XS.ifNo X96.here hx rfl (hb hby at_91) rfl ((if0 _ _).trans (tlt hc91_98).2.2.2) k) ?_
          show WP p e below _ (T96.setTop (mkF m 94 #[.val (.int p1), .val (.int p2), .val (.int p3), .val (.int p4), .val (.int (2 : Int32)), .val (.int z87_S0), .val (.int vi89), .val (.int vi90), .val (.int vi92), .val (.int vi93), .val (.int z95_S0), .val (.int vi97), .val (.int (0 : Int32)), .unset, .unset, .unset, .unset, .unset, .unset] []))
          refine own_go (fun t_ k => XS.iload X96.here hx rfl (hb hby at_94) rfl k) ?_
          show WP p e below _ (T96.setTop (mkF m 96 #[.val (.int p1), .val (.int p2), .val (.int p3), .val (.int p4), .val (.int (2 : Int32)), .val (.int z87_S0), .val (.int vi89), .val (.int vi90), .val (.int vi92), .val (.int vi93), .val (.int z95_S0), .val (.int vi97), .val (.int (0 : Int32)), .unset, .unset, .unset, .unset, .unset, .unset] [(.int vi93)]))
          refine own_go (fun t_ k => XS.iconst X96.here hx rfl (hb hby at_96) k) ?_
          show WP p e below _ (T96.setTop (mkF m 97 #[.val (.int p1), .val (.int p2), .val (.int p3), .val (.int p4), .val (.int (2 : Int32)), .val (.int z87_S0), .val (.int vi89), .val (.int vi90), .val (.int vi92), .val (.int vi93), .val (.int z95_S0), .val (.int vi97), .val (.int (0 : Int32)), .unset, .unset, .unset, .unset, .unset, .unset] [(.int (1 : Int32)), (.int vi93)]))
          refine own_go (fun t_ k => XS.iadd X96.here hx rfl (hb hby at_97) rfl k) ?_
          show WP p e below _ (T96.setTop (mkF m 98 #[.val (.int p1), .val (.int p2), .val (.int p3), .val (.int p4), .val (.int (2 : Int32)), .val (.int z87_S0), .val (.int vi89), .val (.int vi90), .val (.int vi92), .val (.int vi93), .val (.int z95_S0), .val (.int vi97), .val (.int (0 : Int32)), .unset, .unset, .unset, .unset, .unset, .unset] [(.int (vi93 + (1 : Int32)))]))
          refine own_go (fun t_ k => XS.iload X96.here hx rfl (hb hby at_98) rfl k) ?_
          show WP p e below _ (T96.setTop (mkF m 100 #[.val (.int p1), .val (.int p2), .val (.int p3), .val (.int p4), .val (.int (2 : Int32)), .val (.int z87_S0), .val (.int vi89), .val (.int vi90), .val (.int vi92), .val (.int vi93), .val (.int z95_S0), .val (.int vi97), .val (.int (0 : Int32)), .unset, .unset, .unset, .unset, .unset, .unset] [(.int z95_S0), (.int (vi93 + (1 : Int32)))]))
          refine own_go (fun t_ k => XS.iadd X96.here hx rfl (hb hby at_100) rfl k) ?_
          show WP p e below _ (T96.setTop (mkF m 101 #[.val (.int p1), .val (.int p2), .val (.int p3), .val (.int p4), .val (.int (2 : Int32)), .val (.int z87_S0), .val (.int vi89), .val (.int vi90), .val (.int vi92), .val (.int vi93), .val (.int z95_S0), .val (.int vi97), .val (.int (0 : Int32)), .unset, .unset, .unset, .unset, .unset, .unset] [(.int ((vi93 + (1 : Int32)) + z95_S0))]))
          refine own_go (fun t_ k => XS.iloadN X96.here hx rfl (hb hby at_101) rfl k) ?_
          show WP p e below _ (T96.setTop (mkF m 102 #[.val (.int p1), .val (.int p2), .val (.int p3), .val (.int p4), .val (.int (2 : Int32)), .val (.int z87_S0), .val (.int vi89), .val (.int vi90), .val (.int vi92), .val (.int vi93), .val (.int z95_S0), .val (.int vi97), .val (.int (0 : Int32)), .unset, .unset, .unset, .unset, .unset, .unset] [(.int p2), (.int ((vi93 + (1 : Int32)) + z95_S0))]))
          refine own_go (fun t_ k => X96.ldcInt hx hown (mvT hZ (hw _ (List.mem_of_getElem? (i := 6) rfl))) (g := (mkF m 102 #[.val (.int p1), .val (.int p2), .val (.int p3), .val (.int p4), .val (.int (2 : Int32)), .val (.int z87_S0), .val (.int vi89), .val (.int vi90), .val (.int vi92), .val (.int vi93), .val (.int z95_S0), .val (.int vi97), .val (.int (0 : Int32)), .unset, .unset, .unset, .unset, .unset, .unset] [(.int p2), (.int ((vi93 + (1 : Int32)) + z95_S0))])) rfl (hb hby at_102) _ k) ?_
          show WP p e below _ (T96.setTop (mkF m 104 #[.val (.int p1), .val (.int p2), .val (.int p3), .val (.int p4), .val (.int (2 : Int32)), .val (.int z87_S0), .val (.int vi89), .val (.int vi90), .val (.int vi92), .val (.int vi93), .val (.int z95_S0), .val (.int vi97), .val (.int (0 : Int32)), .unset, .unset, .unset, .unset, .unset, .unset] [(.int (2147483647 : Int32)), (.int p2), (.int ((vi93 + (1 : Int32)) + z95_S0))]))
          refine own_go (fun t_ k => XS.iand X96.here hx rfl (hb hby at_104) rfl k) ?_
          show WP p e below _ (T96.setTop (mkF m 105 #[.val (.int p1), .val (.int p2), .val (.int p3), .val (.int p4), .val (.int (2 : Int32)), .val (.int z87_S0), .val (.int vi89), .val (.int vi90), .val (.int vi92), .val (.int vi93), .val (.int z95_S0), .val (.int vi97), .val (.int (0 : Int32)), .unset, .unset, .unset, .unset, .unset, .unset] [(.int (p2 &&& (2147483647 : Int32))), (.int ((vi93 + (1 : Int32)) + z95_S0))]))
          refine own_go (fun t_ k => XS.iload X96.here hx rfl (hb hby at_105) rfl k) ?_
          show WP p e below _ (T96.setTop (mkF m 107 #[.val (.int p1), .val (.int p2), .val (.int p3), .val (.int p4), .val (.int (2 : Int32)), .val (.int z87_S0), .val (.int vi89), .val (.int vi90), .val (.int vi92), .val (.int vi93), .val (.int z95_S0), .val (.int vi97), .val (.int (0 : Int32)), .unset, .unset, .unset, .unset, .unset, .unset] [(.int vi97), (.int (p2 &&& (2147483647 : Int32))), (.int ((vi93 + (1 : Int32)) + z95_S0))]))
          refine own_go (fun t_ k => iremM X96 hx rfl (hb hby at_107) rfl (fun q => by rw [q] at hc91_98; exact absurd hc91_98 (by decide)) k) ?_
          show WP p e below _ (T96.setTop (mkF m 108 #[.val (.int p1), .val (.int p2), .val (.int p3), .val (.int p4), .val (.int (2 : Int32)), .val (.int z87_S0), .val (.int vi89), .val (.int vi90), .val (.int vi92), .val (.int vi93), .val (.int z95_S0), .val (.int vi97), .val (.int (0 : Int32)), .unset, .unset, .unset, .unset, .unset, .unset] [(.int ((p2 &&& (2147483647 : Int32)) % vi97)), (.int ((vi93 + (1 : Int32)) + z95_S0))]))
          refine own_go (fun t_ k => XS.iadd X96.here hx rfl (hb hby at_108) rfl k) ?_
          show WP p e below _ (T96.setTop (mkF m 109 #[.val (.int p1), .val (.int p2), .val (.int p3), .val (.int p4), .val (.int (2 : Int32)), .val (.int z87_S0), .val (.int vi89), .val (.int vi90), .val (.int vi92), .val (.int vi93), .val (.int z95_S0), .val (.int vi97), .val (.int (0 : Int32)), .unset, .unset, .unset, .unset, .unset, .unset] [(.int (((vi93 + (1 : Int32)) + z95_S0) + ((p2 &&& (2147483647 : Int32)) % vi97)))]))
          refine own_go (fun t_ k => XS.istore X96.here hx rfl (hb hby at_109) rfl (l' := #[.val (.int p1), .val (.int p2), .val (.int p3), .val (.int p4), .val (.int (2 : Int32)), .val (.int z87_S0), .val (.int vi89), .val (.int vi90), .val (.int vi92), .val (.int vi93), .val (.int z95_S0), .val (.int vi97), .val (.int (((vi93 + (1 : Int32)) + z95_S0) + ((p2 &&& (2147483647 : Int32)) % vi97))), .unset, .unset, .unset, .unset, .unset, .unset]) rfl k) ?_
          show WP p e below _ (T96.setTop (mkF m 111 #[.val (.int p1), .val (.int p2), .val (.int p3), .val (.int p4), .val (.int (2 : Int32)), .val (.int z87_S0), .val (.int vi89), .val (.int vi90), .val (.int vi92), .val (.int vi93), .val (.int z95_S0), .val (.int vi97), .val (.int (((vi93 + (1 : Int32)) + z95_S0) + ((p2 &&& (2147483647 : Int32)) % vi97))), .unset, .unset, .unset, .unset, .unset, .unset] []))
          generalize he99 : (((vi93 + (1 : Int32)) + z95_S0) + ((p2 &&& (2147483647 : Int32)) % vi97)) = vi99
          show WP p e below _ (T96.setTop (mkF m 111 #[.val (.int p1), .val (.int p2), .val (.int p3), .val (.int p4), .val (.int (2 : Int32)), .val (.int z87_S0), .val (.int vi89), .val (.int vi90), .val (.int vi92), .val (.int vi93), .val (.int z95_S0), .val (.int vi97), .val (.int vi99), .unset, .unset, .unset, .unset, .unset, .unset] []))
          refine own_go (fun t_ k => XS.goto X96.here hx rfl (pc0 := 111) (pc' := 122) rfl (hb hby at_111) (by decide) (by decide) k) ?_
          show WP p e below _ (T96.setTop (mkF m 122 #[.val (.int p1), .val (.int p2), .val (.int p3), .val (.int p4), .val (.int (2 : Int32)), .val (.int z87_S0), .val (.int vi89), .val (.int vi90), .val (.int vi92), .val (.int vi93), .val (.int z95_S0), .val (.int vi97), .val (.int vi99), .unset, .unset, .unset, .unset, .unset, .unset] []))
          refine own_go (fun t_ k => XS.iload X96.here hx rfl (hb hby at_122) rfl k) ?_
          show WP p e below _ (T96.setTop (mkF m 124 #[.val (.int p1), .val (.int p2), .val (.int p3), .val (.int p4), .val (.int (2 : Int32)), .val (.int z87_S0), .val (.int vi89), .val (.int vi90), .val (.int vi92), .val (.int vi93), .val (.int z95_S0), .val (.int vi97), .val (.int vi99), .unset, .unset, .unset, .unset, .unset, .unset] [(.int vi99)]))
          refine own_go (fun t_ k => XS.iload X96.here hx rfl (hb hby at_124) rfl k) ?_
          show WP p e below _ (T96.setTop (mkF m 126 #[.val (.int p1), .val (.int p2), .val (.int p3), .val (.int p4), .val (.int (2 : Int32)), .val (.int z87_S0), .val (.int vi89), .val (.int vi90), .val (.int vi92), .val (.int vi93), .val (.int z95_S0), .val (.int vi97), .val (.int vi99), .unset, .unset, .unset, .unset, .unset, .unset] [(.int vi90), (.int vi99)]))
          refine own_go (fun t_ k => XS.iadd X96.here hx rfl (hb hby at_126) rfl k) ?_
          show WP p e below _ (T96.setTop (mkF m 127 #[.val (.int p1), .val (.int p2), .val (.int p3), .val (.int p4), .val (.int (2 : Int32)), .val (.int z87_S0), .val (.int vi89), .val (.int vi90), .val (.int vi92), .val (.int vi93), .val (.int z95_S0), .val (.int vi97), .val (.int vi99), .unset, .unset, .unset, .unset, .unset, .unset] [(.int (vi99 + vi90))]))
          refine own_go (fun t_ k => XS.iconst X96.here hx rfl (hb hby at_127) k) ?_
          show WP p e below _ (T96.setTop (mkF m 128 #[.val (.int p1), .val (.int p2), .val (.int p3), .val (.int p4), .val (.int (2 : Int32)), .val (.int z87_S0), .val (.int vi89), .val (.int vi90), .val (.int vi92), .val (.int vi93), .val (.int z95_S0), .val (.int vi97), .val (.int vi99), .unset, .unset, .unset, .unset, .unset, .unset] [(.int (1 : Int32)), (.int (vi99 + vi90))]))
          refine own_go (fun t_ k => XS.isub X96.here hx rfl (hb hby at_128) rfl k) ?_
          show WP p e below _ (T96.setTop (mkF m 129 #[.val (.int p1), .val (.int p2), .val (.int p3), .val (.int p4), .val (.int (2 : Int32)), .val (.int z87_S0), .val (.int vi89), .val (.int vi90), .val (.int vi92), .val (.int vi93), .val (.int z95_S0), .val (.int vi97), .val (.int vi99), .unset, .unset, .unset, .unset, .unset, .unset] [(.int ((vi99 + vi90) - (1 : Int32)))]))
          refine own_go (fun t_ k => XS.istore X96.here hx rfl (hb hby at_129) rfl (l' := #[.val (.int p1), .val (.int p2), .val (.int p3), .val (.int p4), .val (.int (2 : Int32)), .val (.int z87_S0), .val (.int vi89), .val (.int vi90), .val (.int vi92), .val (.int vi93), .val (.int z95_S0), .val (.int vi97), .val (.int vi99), .val (.int ((vi99 + vi90) - (1 : Int32))), .unset, .unset, .unset, .unset, .unset]) rfl k) ?_
          show WP p e below _ (T96.setTop (mkF m 131 #[.val (.int p1), .val (.int p2), .val (.int p3), .val (.int p4), .val (.int (2 : Int32)), .val (.int z87_S0), .val (.int vi89), .val (.int vi90), .val (.int vi92), .val (.int vi93), .val (.int z95_S0), .val (.int vi97), .val (.int vi99), .val (.int ((vi99 + vi90) - (1 : Int32))), .unset, .unset, .unset, .unset, .unset] []))
          generalize he100 : ((vi99 + vi90) - (1 : Int32)) = vi100
          show WP p e below _ (T96.setTop (mkF m 131 #[.val (.int p1), .val (.int p2), .val (.int p3), .val (.int p4), .val (.int (2 : Int32)), .val (.int z87_S0), .val (.int vi89), .val (.int vi90), .val (.int vi92), .val (.int vi93), .val (.int z95_S0), .val (.int vi97), .val (.int vi99), .val (.int vi100), .unset, .unset, .unset, .unset, .unset] []))
          refine own_go (fun t_ k => XS.iconst X96.here hx rfl (hb hby at_131) k) ?_
          show WP p e below _ (T96.setTop (mkF m 132 #[.val (.int p1), .val (.int p2), .val (.int p3), .val (.int p4), .val (.int (2 : Int32)), .val (.int z87_S0), .val (.int vi89), .val (.int vi90), .val (.int vi92), .val (.int vi93), .val (.int z95_S0), .val (.int vi97), .val (.int vi99), .val (.int vi100), .unset, .unset, .unset, .unset, .unset] [(.int (3 : Int32))]))
          obtain ⟨T101, h101, k101, X101, e101, E101, A101, st101⟩ := newP X96 hx hZ (hw _ (List.mem_of_getElem? (i := 7) rfl)) e96 (g := (mkF m 132 #[.val (.int p1), .val (.int p2), .val (.int p3), .val (.int p4), .val (.int (2 : Int32)), .val (.int z87_S0), .val (.int vi89), .val (.int vi90), .val (.int vi92), .val (.int vi93), .val (.int z95_S0), .val (.int vi97), .val (.int vi99), .val (.int vi100), .unset, .unset, .unset, .unset, .unset] [(.int (3 : Int32))])) rfl (hb hby at_132) rfl (by decide) (cap := 3) (by decide) (by decide) (by decide) (by decide)
          obtain ⟨b101, g101⟩ : ∃ z, z = Array.size h0 := ⟨_, rfl⟩
          rw [← g101] at A101 st101
          refine own_go st101 ?_
          have g_b101 : n0 ≤ b101 := Nat.le_trans (Nat.le_trans Z0 (Keep.refl h0 []).1) (Nat.le_of_eq g101.symm)
          have sz_b101 : h0.size ≤ b101 := Nat.le_trans (Keep.refl h0 []).1 (Nat.le_of_eq g101.symm)
          have K101 : Keep h0 h101 [] := (Keep.refl h0 []).ext E101
          have V101 : Arv Z h101 b101 k101 .char (3 : Int32) [(.int (0 : Int32)), (.int (0 : Int32)), (.int (0 : Int32))] (.int (0 : Int32)) := (Arv.new A101 (by decide)).pad (pad_rep [] (.int (0 : Int32)) 3)
          show WP p e below _ (T101.setTop (mkF m 134 #[.val (.int p1), .val (.int p2), .val (.int p3), .val (.int p4), .val (.int (2 : Int32)), .val (.int z87_S0), .val (.int vi89), .val (.int vi90), .val (.int vi92), .val (.int vi93), .val (.int z95_S0), .val (.int vi97), .val (.int vi99), .val (.int vi100), .unset, .unset, .unset, .unset, .unset] [(.ref b101)]))
          refine own_go (fun t_ k => XS.astore X101.here hx rfl (hb hby at_134) rfl rfl (l' := #[.val (.int p1), .val (.int p2), .val (.int p3), .val (.int p4), .val (.int (2 : Int32)), .val (.int z87_S0), .val (.int vi89), .val (.int vi90), .val (.int vi92), .val (.int vi93), .val (.int z95_S0), .val (.int vi97), .val (.int vi99), .val (.int vi100), .val (.ref b101), .unset, .unset, .unset, .unset]) rfl k) ?_
          show WP p e below _ (T101.setTop (mkF m 136 #[.val (.int p1), .val (.int p2), .val (.int p3), .val (.int p4), .val (.int (2 : Int32)), .val (.int z87_S0), .val (.int vi89), .val (.int vi90), .val (.int vi92), .val (.int vi93), .val (.int z95_S0), .val (.int vi97), .val (.int vi99), .val (.int vi100), .val (.ref b101), .unset, .unset, .unset, .unset] []))
          refine own_go (fun t_ k => XS.iconst X101.here hx rfl (hb hby at_136) k) ?_
          show WP p e below _ (T101.setTop (mkF m 137 #[.val (.int p1), .val (.int p2), .val (.int p3), .val (.int p4), .val (.int (2 : Int32)), .val (.int z87_S0), .val (.int vi89), .val (.int vi90), .val (.int vi92), .val (.int vi93), .val (.int z95_S0), .val (.int vi97), .val (.int vi99), .val (.int vi100), .val (.ref b101), .unset, .unset, .unset, .unset] [(.int (3 : Int32))]))
          obtain ⟨T102, h102, k102, X102, e102, E102, A102, st102⟩ := newP X101 hx hZ (hw _ (List.mem_of_getElem? (i := 7) rfl)) e101 (g := (mkF m 137 #[.val (.int p1), .val (.int p2), .val (.int p3), .val (.int p4), .val (.int (2 : Int32)), .val (.int z87_S0), .val (.int vi89), .val (.int vi90), .val (.int vi92), .val (.int vi93), .val (.int z95_S0), .val (.int vi97), .val (.int vi99), .val (.int vi100), .val (.ref b101), .unset, .unset, .unset, .unset] [(.int (3 : Int32))])) rfl (hb hby at_137) rfl (by decide) (cap := 3) (by decide) (by decide) (by decide) (by decide)
          obtain ⟨b102, g102⟩ : ∃ z, z = Array.size h101 := ⟨_, rfl⟩
          rw [← g102] at A102 st102
          refine own_go st102 ?_
          have g_b102 : n0 ≤ b102 := Nat.le_trans (Nat.le_trans Z0 K101.1) (Nat.le_of_eq g102.symm)
          have sz_b102 : h0.size ≤ b102 := Nat.le_trans K101.1 (Nat.le_of_eq g102.symm)
          have ne_b101_b102 : b101 ≠ b102 := Nat.ne_of_lt (Nat.lt_of_lt_of_le V101.lt (Nat.le_of_eq g102.symm))
          have K102 : Keep h0 h102 [] := K101.ext E102
          have V102 : Arv Z h102 b102 k102 .char (3 : Int32) [(.int (0 : Int32)), (.int (0 : Int32)), (.int (0 : Int32))] (.int (0 : Int32)) := (Arv.new A102 (by decide)).pad (pad_rep [] (.int (0 : Int32)) 3)
          show WP p e below _ (T102.setTop (mkF m 139 #[.val (.int p1), .val (.int p2), .val (.int p3), .val (.int p4), .val (.int (2 : Int32)), .val (.int z87_S0), .val (.int vi89), .val (.int vi90), .val (.int vi92), .val (.int vi93), .val (.int z95_S0), .val (.int vi97), .val (.int vi99), .val (.int vi100), .val (.ref b101), .unset, .unset, .unset, .unset] [(.ref b102)]))
          refine own_go (fun t_ k => XS.astore X102.here hx rfl (hb hby at_139) rfl rfl (l' := #[.val (.int p1), .val (.int p2), .val (.int p3), .val (.int p4), .val (.int (2 : Int32)), .val (.int z87_S0), .val (.int vi89), .val (.int vi90), .val (.int vi92), .val (.int vi93), .val (.int z95_S0), .val (.int vi97), .val (.int vi99), .val (.int vi100), .val (.ref b101), .val (.ref b102), .unset, .unset, .unset]) rfl k) ?_
          show WP p e below _ (T102.setTop (mkF m 141 #[.val (.int p1), .val (.int p2), .val (.int p3), .val (.int p4), .val (.int (2 : Int32)), .val (.int z87_S0), .val (.int vi89), .val (.int vi90), .val (.int vi92), .val (.int vi93), .val (.int z95_S0), .val (.int vi97), .val (.int vi99), .val (.int vi100), .val (.ref b101), .val (.ref b102), .unset, .unset, .unset] []))
          refine own_go (fun t_ k => XS.aload X102.here hx rfl (hb hby at_141) rfl rfl k) ?_
          show WP p e below _ (T102.setTop (mkF m 143 #[.val (.int p1), .val (.int p2), .val (.int p3), .val (.int p4), .val (.int (2 : Int32)), .val (.int z87_S0), .val (.int vi89), .val (.int vi90), .val (.int vi92), .val (.int vi93), .val (.int z95_S0), .val (.int vi97), .val (.int vi99), .val (.int vi100), .val (.ref b101), .val (.ref b102), .unset, .unset, .unset] [(.ref b101)]))
          refine own_go (fun t_ k => XS.iconst X102.here hx rfl (hb hby at_143) k) ?_
          show WP p e below _ (T102.setTop (mkF m 144 #[.val (.int p1), .val (.int p2), .val (.int p3), .val (.int p4), .val (.int (2 : Int32)), .val (.int z87_S0), .val (.int vi89), .val (.int vi90), .val (.int vi92), .val (.int vi93), .val (.int z95_S0), .val (.int vi97), .val (.int vi99), .val (.int vi100), .val (.ref b101), .val (.ref b102), .unset, .unset, .unset] [(.int (0 : Int32)), (.ref b101)]))
          refine own_go (fun t_ k => XS.iload X102.here hx rfl (hb hby at_144) rfl k) ?_
          show WP p e below _ (T102.setTop (mkF m 146 #[.val (.int p1), .val (.int p2), .val (.int p3), .val (.int p4), .val (.int (2 : Int32)), .val (.int z87_S0), .val (.int vi89), .val (.int vi90), .val (.int vi92), .val (.int vi93), .val (.int z95_S0), .val (.int vi97), .val (.int vi99), .val (.int vi100), .val (.ref b101), .val (.ref b102), .unset, .unset, .unset] [(.int vi92), (.int (0 : Int32)), (.ref b101)]))
          refine own_go (fun t_ k => XS.i2c X102.here hx rfl (hb hby at_146) rfl k) ?_
          show WP p e below _ (T102.setTop (mkF m 147 #[.val (.int p1), .val (.int p2), .val (.int p3), .val (.int p4), .val (.int (2 : Int32)), .val (.int z87_S0), .val (.int vi89), .val (.int vi90), .val (.int vi92), .val (.int vi93), .val (.int z95_S0), .val (.int vi97), .val (.int vi99), .val (.int vi100), .val (.ref b101), .val (.ref b102), .unset, .unset, .unset] [(.int (vi92.toUInt32.toUInt16.toUInt32.toInt32)), (.int (0 : Int32)), (.ref b101)]))
          obtain ⟨cl103, Ar103, q103, S103, M103, H103, G103⟩ := id ((V101.ext E102))
          have hin103 : ¬ ((0 : Int32) < 0 ∨ cl103.slots.size ≤ ((0 : Int32)).toNatClampNeg) := inb_of S103 (⟨by decide, by decide⟩)
          obtain ⟨T104, h104, X104, e104, W104, st104⟩ := stC X102 hx hZ e102 Ar103 (j := (0 : Int32)) hin103 (g := (mkF m 147 #[.val (.int p1), .val (.int p2), .val (.int p3), .val (.int p4), .val (.int (2 : Int32)), .val (.int z87_S0), .val (.int vi89), .val (.int vi90), .val (.int vi92), .val (.int vi93), .val (.int z95_S0), .val (.int vi97), .val (.int vi99), .val (.int vi100), .val (.ref b101), .val (.ref b102), .unset, .unset, .unset] [(.int (vi92.toUInt32.toUInt16.toUInt32.toInt32)), (.int (0 : Int32)), (.ref b101)])) rfl rfl (hb hby at_147)
          refine own_go st104 ?_
          have V104 : Arv Z h104 b101 k101 .char (3 : Int32) [(.int ((vi92.toUInt32.toUInt16.toUInt32.toInt32).toUInt32.toUInt16.toUInt32.toInt32)), (.int (0 : Int32)), (.int (0 : Int32))] (.int (0 : Int32)) := Arv.set Ar103 q103 S103 M103 H103 G103 (fits_nar_char _) W104 0 rfl (Nat.le_of_ble_eq_true rfl)
          have N104 := Fr.snoc X104 N96 g_b101
          have K104 : Keep h0 h104 [] := K102.wr W104 (Or.inr sz_b101)
          show WP p e below _ (T104.setTop (mkF m 148 #[.val (.int p1), .val (.int p2), .val (.int p3), .val (.int p4), .val (.int (2 : Int32)), .val (.int z87_S0), .val (.int vi89), .val (.int vi90), .val (.int vi92), .val (.int vi93), .val (.int z95_S0), .val (.int vi97), .val (.int vi99), .val (.int vi100), .val (.ref b101), .val (.ref b102), .unset, .unset, .unset] []))
          refine own_go (fun t_ k => XS.aload X104.here hx rfl (hb hby at_148) rfl rfl k) ?_
          show WP p e below _ (T104.setTop (mkF m 150 #[.val (.int p1), .val (.int p2), .val (.int p3), .val (.int p4), .val (.int (2 : Int32)), .val (.int z87_S0), .val (.int vi89), .val (.int vi90), .val (.int vi92), .val (.int vi93), .val (.int z95_S0), .val (.int vi97), .val (.int vi99), .val (.int vi100), .val (.ref b101), .val (.ref b102), .unset, .unset, .unset] [(.ref b102)]))
          refine own_go (fun t_ k => XS.iconst X104.here hx rfl (hb hby at_150) k) ?_
          show WP p e below _ (T104.setTop (mkF m 151 #[.val (.int p1), .val (.int p2), .val (.int p3), .val (.int p4), .val (.int (2 : Int32)), .val (.int z87_S0), .val (.int vi89), .val (.int vi90), .val (.int vi92), .val (.int vi93), .val (.int z95_S0), .val (.int vi97), .val (.int vi99), .val (.int vi100), .val (.ref b101), .val (.ref b102), .unset, .unset, .unset] [(.int (0 : Int32)), (.ref b102)]))
          refine own_go (fun t_ k => XS.iload X104.here hx rfl (hb hby at_151) rfl k) ?_
          show WP p e below _ (T104.setTop (mkF m 153 #[.val (.int p1), .val (.int p2), .val (.int p3), .val (.int p4), .val (.int (2 : Int32)), .val (.int z87_S0), .val (.int vi89), .val (.int vi90), .val (.int vi92), .val (.int vi93), .val (.int z95_S0), .val (.int vi97), .val (.int vi99), .val (.int vi100), .val (.ref b101), .val (.ref b102), .unset, .unset, .unset] [(.int vi93), (.int (0 : Int32)), (.ref b102)]))
          refine own_go (fun t_ k => XS.i2c X104.here hx rfl (hb hby at_153) rfl k) ?_
          show WP p e below _ (T104.setTop (mkF m 154 #[.val (.int p1), .val (.int p2), .val (.int p3), .val (.int p4), .val (.int (2 : Int32)), .val (.int z87_S0), .val (.int vi89), .val (.int vi90), .val (.int vi92), .val (.int vi93), .val (.int z95_S0), .val (.int vi97), .val (.int vi99), .val (.int vi100), .val (.ref b101), .val (.ref b102), .unset, .unset, .unset] [(.int (vi93.toUInt32.toUInt16.toUInt32.toInt32)), (.int (0 : Int32)), (.ref b102)]))
          obtain ⟨cl105, Ar105, q105, S105, M105, H105, G105⟩ := id ((V102.other W104 (Ne.symm ne_b101_b102)))
          have hin105 : ¬ ((0 : Int32) < 0 ∨ cl105.slots.size ≤ ((0 : Int32)).toNatClampNeg) := inb_of S105 (⟨by decide, by decide⟩)
          obtain ⟨T106, h106, X106, e106, W106, st106⟩ := stC X104 hx hZ e104 Ar105 (j := (0 : Int32)) hin105 (g := (mkF m 154 #[.val (.int p1), .val (.int p2), .val (.int p3), .val (.int p4), .val (.int (2 : Int32)), .val (.int z87_S0), .val (.int vi89), .val (.int vi90), .val (.int vi92), .val (.int vi93), .val (.int z95_S0), .val (.int vi97), .val (.int vi99), .val (.int vi100), .val (.ref b101), .val (.ref b102), .unset, .unset, .unset] [(.int (vi93.toUInt32.toUInt16.toUInt32.toInt32)), (.int (0 : Int32)), (.ref b102)])) rfl rfl (hb hby at_154)
          refine own_go st106 ?_
          have V106 : Arv Z h106 b102 k102 .char (3 : Int32) [(.int ((vi93.toUInt32.toUInt16.toUInt32.toInt32).toUInt32.toUInt16.toUInt32.toInt32)), (.int (0 : Int32)), (.int (0 : Int32))] (.int (0 : Int32)) := Arv.set Ar105 q105 S105 M105 H105 G105 (fits_nar_char _) W106 0 rfl (Nat.le_of_ble_eq_true rfl)
          have N106 := Fr.snoc X106 N104 g_b102
          have K106 : Keep h0 h106 [] := K104.wr W106 (Or.inr sz_b102)
          show WP p e below _ (T106.setTop (mkF m 155 #[.val (.int p1), .val (.int p2), .val (.int p3), .val (.int p4), .val (.int (2 : Int32)), .val (.int z87_S0), .val (.int vi89), .val (.int vi90), .val (.int vi92), .val (.int vi93), .val (.int z95_S0), .val (.int vi97), .val (.int vi99), .val (.int vi100), .val (.ref b101), .val (.ref b102), .unset, .unset, .unset] []))
          refine own_go (fun t_ k => XS.aload X106.here hx rfl (hb hby at_155) rfl rfl k) ?_
          show WP p e below _ (T106.setTop (mkF m 157 #[.val (.int p1), .val (.int p2), .val (.int p3), .val (.int p4), .val (.int (2 : Int32)), .val (.int z87_S0), .val (.int vi89), .val (.int vi90), .val (.int vi92), .val (.int vi93), .val (.int z95_S0), .val (.int vi97), .val (.int vi99), .val (.int vi100), .val (.ref b101), .val (.ref b102), .unset, .unset, .unset] [(.ref b101)]))
          refine own_go (fun t_ k => XS.iconst X106.here hx rfl (hb hby at_157) k) ?_
          show WP p e below _ (T106.setTop (mkF m 158 #[.val (.int p1), .val (.int p2), .val (.int p3), .val (.int p4), .val (.int (2 : Int32)), .val (.int z87_S0), .val (.int vi89), .val (.int vi90), .val (.int vi92), .val (.int vi93), .val (.int z95_S0), .val (.int vi97), .val (.int vi99), .val (.int vi100), .val (.ref b101), .val (.ref b102), .unset, .unset, .unset] [(.int (1 : Int32)), (.ref b101)]))
          refine own_go (fun t_ k => XS.iload X106.here hx rfl (hb hby at_158) rfl k) ?_
          show WP p e below _ (T106.setTop (mkF m 160 #[.val (.int p1), .val (.int p2), .val (.int p3), .val (.int p4), .val (.int (2 : Int32)), .val (.int z87_S0), .val (.int vi89), .val (.int vi90), .val (.int vi92), .val (.int vi93), .val (.int z95_S0), .val (.int vi97), .val (.int vi99), .val (.int vi100), .val (.ref b101), .val (.ref b102), .unset, .unset, .unset] [(.int vi99), (.int (1 : Int32)), (.ref b101)]))
          refine own_go (fun t_ k => XS.i2c X106.here hx rfl (hb hby at_160) rfl k) ?_
          show WP p e below _ (T106.setTop (mkF m 161 #[.val (.int p1), .val (.int p2), .val (.int p3), .val (.int p4), .val (.int (2 : Int32)), .val (.int z87_S0), .val (.int vi89), .val (.int vi90), .val (.int vi92), .val (.int vi93), .val (.int z95_S0), .val (.int vi97), .val (.int vi99), .val (.int vi100), .val (.ref b101), .val (.ref b102), .unset, .unset, .unset] [(.int (vi99.toUInt32.toUInt16.toUInt32.toInt32)), (.int (1 : Int32)), (.ref b101)]))
          obtain ⟨cl107, Ar107, q107, S107, M107, H107, G107⟩ := id ((V104.other W106 ne_b101_b102))
          have hin107 : ¬ ((1 : Int32) < 0 ∨ cl107.slots.size ≤ ((1 : Int32)).toNatClampNeg) := inb_of S107 (⟨by decide, by decide⟩)
          obtain ⟨T108, h108, X108, e108, W108, st108⟩ := stC X106 hx hZ e106 Ar107 (j := (1 : Int32)) hin107 (g := (mkF m 161 #[.val (.int p1), .val (.int p2), .val (.int p3), .val (.int p4), .val (.int (2 : Int32)), .val (.int z87_S0), .val (.int vi89), .val (.int vi90), .val (.int vi92), .val (.int vi93), .val (.int z95_S0), .val (.int vi97), .val (.int vi99), .val (.int vi100), .val (.ref b101), .val (.ref b102), .unset, .unset, .unset] [(.int (vi99.toUInt32.toUInt16.toUInt32.toInt32)), (.int (1 : Int32)), (.ref b101)])) rfl rfl (hb hby at_161)
          refine own_go st108 ?_
          have V108 : Arv Z h108 b101 k101 .char (3 : Int32) [(.int ((vi92.toUInt32.toUInt16.toUInt32.toInt32).toUInt32.toUInt16.toUInt32.toInt32)), (.int ((vi99.toUInt32.toUInt16.toUInt32.toInt32).toUInt32.toUInt16.toUInt32.toInt32)), (.int (0 : Int32))] (.int (0 : Int32)) := Arv.set Ar107 q107 S107 M107 H107 G107 (fits_nar_char _) W108 1 rfl (Nat.le_of_ble_eq_true rfl)
          have N108 := Fr.snoc X108 N106 g_b101
          have K108 : Keep h0 h108 [] := K106.wr W108 (Or.inr sz_b101)
          show WP p e below _ (T108.setTop (mkF m 162 #[.val (.int p1), .val (.int p2), .val (.int p3), .val (.int p4), .val (.int (2 : Int32)), .val (.int z87_S0), .val (.int vi89), .val (.int vi90), .val (.int vi92), .val (.int vi93), .val (.int z95_S0), .val (.int vi97), .val (.int vi99), .val (.int vi100), .val (.ref b101), .val (.ref b102), .unset, .unset, .unset] []))
          refine own_go (fun t_ k => XS.aload X108.here hx rfl (hb hby at_162) rfl rfl k) ?_
          show WP p e below _ (T108.setTop (mkF m 164 #[.val (.int p1), .val (.int p2), .val (.int p3), .val (.int p4), .val (.int (2 : Int32)), .val (.int z87_S0), .val (.int vi89), .val (.int vi90), .val (.int vi92), .val (.int vi93), .val (.int z95_S0), .val (.int vi97), .val (.int vi99), .val (.int vi100), .val (.ref b101), .val (.ref b102), .unset, .unset, .unset] [(.ref b102)]))
          refine own_go (fun t_ k => XS.iconst X108.here hx rfl (hb hby at_164) k) ?_
          show WP p e below _ (T108.setTop (mkF m 165 #[.val (.int p1), .val (.int p2), .val (.int p3), .val (.int p4), .val (.int (2 : Int32)), .val (.int z87_S0), .val (.int vi89), .val (.int vi90), .val (.int vi92), .val (.int vi93), .val (.int z95_S0), .val (.int vi97), .val (.int vi99), .val (.int vi100), .val (.ref b101), .val (.ref b102), .unset, .unset, .unset] [(.int (1 : Int32)), (.ref b102)]))
          refine own_go (fun t_ k => XS.iload X108.here hx rfl (hb hby at_165) rfl k) ?_
          show WP p e below _ (T108.setTop (mkF m 167 #[.val (.int p1), .val (.int p2), .val (.int p3), .val (.int p4), .val (.int (2 : Int32)), .val (.int z87_S0), .val (.int vi89), .val (.int vi90), .val (.int vi92), .val (.int vi93), .val (.int z95_S0), .val (.int vi97), .val (.int vi99), .val (.int vi100), .val (.ref b101), .val (.ref b102), .unset, .unset, .unset] [(.int vi100), (.int (1 : Int32)), (.ref b102)]))
          refine own_go (fun t_ k => XS.i2c X108.here hx rfl (hb hby at_167) rfl k) ?_
          show WP p e below _ (T108.setTop (mkF m 168 #[.val (.int p1), .val (.int p2), .val (.int p3), .val (.int p4), .val (.int (2 : Int32)), .val (.int z87_S0), .val (.int vi89), .val (.int vi90), .val (.int vi92), .val (.int vi93), .val (.int z95_S0), .val (.int vi97), .val (.int vi99), .val (.int vi100), .val (.ref b101), .val (.ref b102), .unset, .unset, .unset] [(.int (vi100.toUInt32.toUInt16.toUInt32.toInt32)), (.int (1 : Int32)), (.ref b102)]))
          obtain ⟨cl109, Ar109, q109, S109, M109, H109, G109⟩ := id ((V106.other W108 (Ne.symm ne_b101_b102)))
          have hin109 : ¬ ((1 : Int32) < 0 ∨ cl109.slots.size ≤ ((1 : Int32)).toNatClampNeg) := inb_of S109 (⟨by decide, by decide⟩)
          obtain ⟨T110, h110, X110, e110, W110, st110⟩ := stC X108 hx hZ e108 Ar109 (j := (1 : Int32)) hin109 (g := (mkF m 168 #[.val (.int p1), .val (.int p2), .val (.int p3), .val (.int p4), .val (.int (2 : Int32)), .val (.int z87_S0), .val (.int vi89), .val (.int vi90), .val (.int vi92), .val (.int vi93), .val (.int z95_S0), .val (.int vi97), .val (.int vi99), .val (.int vi100), .val (.ref b101), .val (.ref b102), .unset, .unset, .unset] [(.int (vi100.toUInt32.toUInt16.toUInt32.toInt32)), (.int (1 : Int32)), (.ref b102)])) rfl rfl (hb hby at_168)
          refine own_go st110 ?_
          have V110 : Arv Z h110 b102 k102 .char (3 : Int32) [(.int ((vi93.toUInt32.toUInt16.toUInt32.toInt32).toUInt32.toUInt16.toUInt32.toInt32)), (.int ((vi100.toUInt32.toUInt16.toUInt32.toInt32).toUInt32.toUInt16.toUInt32.toInt32)), (.int (0 : Int32))] (.int (0 : Int32)) := Arv.set Ar109 q109 S109 M109 H109 G109 (fits_nar_char _) W110 1 rfl (Nat.le_of_ble_eq_true rfl)
          have N110 := Fr.snoc X110 N108 g_b102
          have K110 : Keep h0 h110 [] := K108.wr W110 (Or.inr sz_b102)
          show WP p e below _ (T110.setTop (mkF m 169 #[.val (.int p1), .val (.int p2), .val (.int p3), .val (.int p4), .val (.int (2 : Int32)), .val (.int z87_S0), .val (.int vi89), .val (.int vi90), .val (.int vi92), .val (.int vi93), .val (.int z95_S0), .val (.int vi97), .val (.int vi99), .val (.int vi100), .val (.ref b101), .val (.ref b102), .unset, .unset, .unset] []))
          refine own_go (fun t_ k => XS.aload X110.here hx rfl (hb hby at_169) rfl rfl k) ?_
          show WP p e below _ (T110.setTop (mkF m 171 #[.val (.int p1), .val (.int p2), .val (.int p3), .val (.int p4), .val (.int (2 : Int32)), .val (.int z87_S0), .val (.int vi89), .val (.int vi90), .val (.int vi92), .val (.int vi93), .val (.int z95_S0), .val (.int vi97), .val (.int vi99), .val (.int vi100), .val (.ref b101), .val (.ref b102), .unset, .unset, .unset] [(.ref b101)]))
          refine own_go (fun t_ k => XS.iconst X110.here hx rfl (hb hby at_171) k) ?_
          show WP p e below _ (T110.setTop (mkF m 172 #[.val (.int p1), .val (.int p2), .val (.int p3), .val (.int p4), .val (.int (2 : Int32)), .val (.int z87_S0), .val (.int vi89), .val (.int vi90), .val (.int vi92), .val (.int vi93), .val (.int z95_S0), .val (.int vi97), .val (.int vi99), .val (.int vi100), .val (.ref b101), .val (.ref b102), .unset, .unset, .unset] [(.int (2 : Int32)), (.ref b101)]))
          refine own_go (fun t_ k => XS.bipush X110.here hx rfl (hb hby at_172) k) ?_
          show WP p e below _ (T110.setTop (mkF m 174 #[.val (.int p1), .val (.int p2), .val (.int p3), .val (.int p4), .val (.int (2 : Int32)), .val (.int z87_S0), .val (.int vi89), .val (.int vi90), .val (.int vi92), .val (.int vi93), .val (.int z95_S0), .val (.int vi97), .val (.int vi99), .val (.int vi100), .val (.ref b101), .val (.ref b102), .unset, .unset, .unset] [(.int (7 : Int32)), (.int (2 : Int32)), (.ref b101)]))
          obtain ⟨cl111, Ar111, q111, S111, M111, H111, G111⟩ := id ((V108.other W110 ne_b101_b102))
          have hin111 : ¬ ((2 : Int32) < 0 ∨ cl111.slots.size ≤ ((2 : Int32)).toNatClampNeg) := inb_of S111 (⟨by decide, by decide⟩)
          obtain ⟨T112, h112, X112, e112, W112, st112⟩ := stC X110 hx hZ e110 Ar111 (j := (2 : Int32)) hin111 (g := (mkF m 174 #[.val (.int p1), .val (.int p2), .val (.int p3), .val (.int p4), .val (.int (2 : Int32)), .val (.int z87_S0), .val (.int vi89), .val (.int vi90), .val (.int vi92), .val (.int vi93), .val (.int z95_S0), .val (.int vi97), .val (.int vi99), .val (.int vi100), .val (.ref b101), .val (.ref b102), .unset, .unset, .unset] [(.int (7 : Int32)), (.int (2 : Int32)), (.ref b101)])) rfl rfl (hb hby at_174)
          refine own_go st112 ?_
          have V112 : Arv Z h112 b101 k101 .char (3 : Int32) [(.int ((vi92.toUInt32.toUInt16.toUInt32.toInt32).toUInt32.toUInt16.toUInt32.toInt32)), (.int ((vi99.toUInt32.toUInt16.toUInt32.toInt32).toUInt32.toUInt16.toUInt32.toInt32)), (.int ((7 : Int32).toUInt32.toUInt16.toUInt32.toInt32))] (.int (0 : Int32)) := Arv.set Ar111 q111 S111 M111 H111 G111 (fits_nar_char _) W112 2 rfl (Nat.le_of_ble_eq_true rfl)
          have N112 := Fr.snoc X112 N110 g_b101
          have K112 : Keep h0 h112 [] := K110.wr W112 (Or.inr sz_b101)
          show WP p e below _ (T112.setTop (mkF m 175 #[.val (.int p1), .val (.int p2), .val (.int p3), .val (.int p4), .val (.int (2 : Int32)), .val (.int z87_S0), .val (.int vi89), .val (.int vi90), .val (.int vi92), .val (.int vi93), .val (.int z95_S0), .val (.int vi97), .val (.int vi99), .val (.int vi100), .val (.ref b101), .val (.ref b102), .unset, .unset, .unset] []))
          refine own_go (fun t_ k => XS.aload X112.here hx rfl (hb hby at_175) rfl rfl k) ?_
          show WP p e below _ (T112.setTop (mkF m 177 #[.val (.int p1), .val (.int p2), .val (.int p3), .val (.int p4), .val (.int (2 : Int32)), .val (.int z87_S0), .val (.int vi89), .val (.int vi90), .val (.int vi92), .val (.int vi93), .val (.int z95_S0), .val (.int vi97), .val (.int vi99), .val (.int vi100), .val (.ref b101), .val (.ref b102), .unset, .unset, .unset] [(.ref b102)]))
          refine own_go (fun t_ k => XS.iconst X112.here hx rfl (hb hby at_177) k) ?_
          show WP p e below _ (T112.setTop (mkF m 178 #[.val (.int p1), .val (.int p2), .val (.int p3), .val (.int p4), .val (.int (2 : Int32)), .val (.int z87_S0), .val (.int vi89), .val (.int vi90), .val (.int vi92), .val (.int vi93), .val (.int z95_S0), .val (.int vi97), .val (.int vi99), .val (.int vi100), .val (.ref b101), .val (.ref b102), .unset, .unset, .unset] [(.int (2 : Int32)), (.ref b102)]))
          refine own_go (fun t_ k => XS.bipush X112.here hx rfl (hb hby at_178) k) ?_
          show WP p e below _ (T112.setTop (mkF m 180 #[.val (.int p1), .val (.int p2), .val (.int p3), .val (.int p4), .val (.int (2 : Int32)), .val (.int z87_S0), .val (.int vi89), .val (.int vi90), .val (.int vi92), .val (.int vi93), .val (.int z95_S0), .val (.int vi97), .val (.int vi99), .val (.int vi100), .val (.ref b101), .val (.ref b102), .unset, .unset, .unset] [(.int (9 : Int32)), (.int (2 : Int32)), (.ref b102)]))
          obtain ⟨cl113, Ar113, q113, S113, M113, H113, G113⟩ := id ((V110.other W112 (Ne.symm ne_b101_b102)))
          have hin113 : ¬ ((2 : Int32) < 0 ∨ cl113.slots.size ≤ ((2 : Int32)).toNatClampNeg) := inb_of S113 (⟨by decide, by decide⟩)
          obtain ⟨T114, h114, X114, e114, W114, st114⟩ := stC X112 hx hZ e112 Ar113 (j := (2 : Int32)) hin113 (g := (mkF m 180 #[.val (.int p1), .val (.int p2), .val (.int p3), .val (.int p4), .val (.int (2 : Int32)), .val (.int z87_S0), .val (.int vi89), .val (.int vi90), .val (.int vi92), .val (.int vi93), .val (.int z95_S0), .val (.int vi97), .val (.int vi99), .val (.int vi100), .val (.ref b101), .val (.ref b102), .unset, .unset, .unset] [(.int (9 : Int32)), (.int (2 : Int32)), (.ref b102)])) rfl rfl (hb hby at_180)
          refine own_go st114 ?_
          have V114 : Arv Z h114 b102 k102 .char (3 : Int32) [(.int ((vi93.toUInt32.toUInt16.toUInt32.toInt32).toUInt32.toUInt16.toUInt32.toInt32)), (.int ((vi100.toUInt32.toUInt16.toUInt32.toInt32).toUInt32.toUInt16.toUInt32.toInt32)), (.int ((9 : Int32).toUInt32.toUInt16.toUInt32.toInt32))] (.int (0 : Int32)) := Arv.set Ar113 q113 S113 M113 H113 G113 (fits_nar_char _) W114 2 rfl (Nat.le_of_ble_eq_true rfl)
          have N114 := Fr.snoc X114 N112 g_b102
          have K114 : Keep h0 h114 [] := K112.wr W114 (Or.inr sz_b102)
          show WP p e below _ (T114.setTop (mkF m 181 #[.val (.int p1), .val (.int p2), .val (.int p3), .val (.int p4), .val (.int (2 : Int32)), .val (.int z87_S0), .val (.int vi89), .val (.int vi90), .val (.int vi92), .val (.int vi93), .val (.int z95_S0), .val (.int vi97), .val (.int vi99), .val (.int vi100), .val (.ref b101), .val (.ref b102), .unset, .unset, .unset] []))
          refine own_go (fun t_ k => XS.iload X114.here hx rfl (hb hby at_181) rfl k) ?_
          show WP p e below _ (T114.setTop (mkF m 183 #[.val (.int p1), .val (.int p2), .val (.int p3), .val (.int p4), .val (.int (2 : Int32)), .val (.int z87_S0), .val (.int vi89), .val (.int vi90), .val (.int vi92), .val (.int vi93), .val (.int z95_S0), .val (.int vi97), .val (.int vi99), .val (.int vi100), .val (.ref b101), .val (.ref b102), .unset, .unset, .unset] [(.int (2 : Int32))]))
          have hc183_115 : ¬ ((2 : Int32) = (0 : Int32)) := by decide
          refine own_go (fun t_ k => XS.ifYes X114.here hx rfl (pc0 := 183) (pc' := 190) rfl (hb hby at_183) rfl ((if0 _ _).trans (feq hc183_115).2) (by decide) (by decide) k) ?_
          show WP p e below _ (T114.setTop (mkF m 190 #[.val (.int p1), .val (.int p2), .val (.int p3), .val (.int p4), .val (.int (2 : Int32)), .val (.int z87_S0), .val (.int vi89), .val (.int vi90), .val (.int vi92), .val (.int vi93), .val (.int z95_S0), .val (.int vi97), .val (.int vi99), .val (.int vi100), .val (.ref b101), .val (.ref b102), .unset, .unset, .unset] []))
          refine own_go (fun t_ k => XS.iload X114.here hx rfl (hb hby at_190) rfl k) ?_
          show WP p e below _ (T114.setTop (mkF m 192 #[.val (.int p1), .val (.int p2), .val (.int p3), .val (.int p4), .val (.int (2 : Int32)), .val (.int z87_S0), .val (.int vi89), .val (.int vi90), .val (.int vi92), .val (.int vi93), .val (.int z95_S0), .val (.int vi97), .val (.int vi99), .val (.int vi100), .val (.ref b101), .val (.ref b102), .unset, .unset, .unset] [(.int (2 : Int32))]))
          refine own_go (fun t_ k => XS.iconst X114.here hx rfl (hb hby at_192) k) ?_
          show WP p e below _ (T114.setTop (mkF m 193 #[.val (.int p1), .val (.int p2), .val (.int p3), .val (.int p4), .val (.int (2 : Int32)), .val (.int z87_S0), .val (.int vi89), .val (.int vi90), .val (.int vi92), .val (.int vi93), .val (.int z95_S0), .val (.int vi97), .val (.int vi99), .val (.int vi100), .val (.ref b101), .val (.ref b102), .unset, .unset, .unset] [(.int (1 : Int32)), (.int (2 : Int32))]))
          have hc193_116 : ¬ ((2 : Int32) = (1 : Int32)) := by decide
          refine own_go (fun t_ k => XS.icmpYes X114.here hx rfl (pc0 := 193) (pc' := 201) rfl (hb hby at_193) rfl (feq hc193_116).2 (by decide) (by decide) k) ?_
          show WP p e below _ (T114.setTop (mkF m 201 #[.val (.int p1), .val (.int p2), .val (.int p3), .val (.int p4), .val (.int (2 : Int32)), .val (.int z87_S0), .val (.int vi89), .val (.int vi90), .val (.int vi92), .val (.int vi93), .val (.int z95_S0), .val (.int vi97), .val (.int vi99), .val (.int vi100), .val (.ref b101), .val (.ref b102), .unset, .unset, .unset] []))
          refine own_go (fun t_ k => XS.iload X114.here hx rfl (hb hby at_201) rfl k) ?_
          show WP p e below _ (T114.setTop (mkF m 203 #[.val (.int p1), .val (.int p2), .val (.int p3), .val (.int p4), .val (.int (2 : Int32)), .val (.int z87_S0), .val (.int vi89), .val (.int vi90), .val (.int vi92), .val (.int vi93), .val (.int z95_S0), .val (.int vi97), .val (.int vi99), .val (.int vi100), .val (.ref b101), .val (.ref b102), .unset, .unset, .unset] [(.int vi89)]))
          refine own_go (fun t_ k => XS.iload X114.here hx rfl (hb hby at_203) rfl k) ?_
          show WP p e below _ (T114.setTop (mkF m 205 #[.val (.int p1), .val (.int p2), .val (.int p3), .val (.int p4), .val (.int (2 : Int32)), .val (.int z87_S0), .val (.int vi89), .val (.int vi90), .val (.int vi92), .val (.int vi93), .val (.int z95_S0), .val (.int vi97), .val (.int vi99), .val (.int vi100), .val (.ref b101), .val (.ref b102), .unset, .unset, .unset] [(.int vi90), (.int vi89)]))
          refine own_go (fun t_ k => XS.iadd X114.here hx rfl (hb hby at_205) rfl k) ?_
          show WP p e below _ (T114.setTop (mkF m 206 #[.val (.int p1), .val (.int p2), .val (.int p3), .val (.int p4), .val (.int (2 : Int32)), .val (.int z87_S0), .val (.int vi89), .val (.int vi90), .val (.int vi92), .val (.int vi93), .val (.int z95_S0), .val (.int vi97), .val (.int vi99), .val (.int vi100), .val (.ref b101), .val (.ref b102), .unset, .unset, .unset] [(.int (vi89 + vi90))]))
          refine own_go (fun t_ k => XS.istore X114.here hx rfl (hb hby at_206) rfl (l' := #[.val (.int p1), .val (.int p2), .val (.int p3), .val (.int p4), .val (.int (2 : Int32)), .val (.int z87_S0), .val (.int vi89), .val (.int vi90), .val (.int vi92), .val (.int vi93), .val (.int z95_S0), .val (.int vi97), .val (.int vi99), .val (.int vi100), .val (.ref b101), .val (.ref b102), .val (.int (vi89 + vi90)), .unset, .unset]) rfl k) ?_
          show WP p e below _ (T114.setTop (mkF m 208 #[.val (.int p1), .val (.int p2), .val (.int p3), .val (.int p4), .val (.int (2 : Int32)), .val (.int z87_S0), .val (.int vi89), .val (.int vi90), .val (.int vi92), .val (.int vi93), .val (.int z95_S0), .val (.int vi97), .val (.int vi99), .val (.int vi100), .val (.ref b101), .val (.ref b102), .val (.int (vi89 + vi90)), .unset, .unset] []))
          generalize he117 : (vi89 + vi90) = vi117
          show WP p e below _ (T114.setTop (mkF m 208 #[.val (.int p1), .val (.int p2), .val (.int p3), .val (.int p4), .val (.int (2 : Int32)), .val (.int z87_S0), .val (.int vi89), .val (.int vi90), .val (.int vi92), .val (.int vi93), .val (.int z95_S0), .val (.int vi97), .val (.int vi99), .val (.int vi100), .val (.ref b101), .val (.ref b102), .val (.int vi117), .unset, .unset] []))
          obtain ⟨T118, h118, X118, e118, E118, A118, D118, -, st118⟩ := newO X114 hx hZ hown (hw _ (List.mem_of_getElem? (i := 8) rfl)) (hw _ (List.mem_of_getElem? (i := 9) rfl)) (hw _ (List.mem_of_getElem? (i := 10) rfl)) e114 (g := (mkF m 208 #[.val (.int p1), .val (.int p2), .val (.int p3), .val (.int p4), .val (.int (2 : Int32)), .val (.int z87_S0), .val (.int vi89), .val (.int vi90), .val (.int vi92), .val (.int vi93), .val (.int z95_S0), .val (.int vi97), .val (.int vi99), .val (.int vi100), .val (.ref b101), .val (.ref b102), .val (.int vi117), .unset, .unset] [])) rfl (hb hby at_208) (by decide) (by decide)
          obtain ⟨b118, g118⟩ : ∃ z, z = Array.size h114 := ⟨_, rfl⟩
          rw [← g118] at A118 D118 st118
          refine own_go st118 ?_
          have g_b118 : n0 ≤ b118 := Nat.le_trans (Nat.le_trans Z0 K114.1) (Nat.le_of_eq g118.symm)
          have sz_b118 : h0.size ≤ b118 := Nat.le_trans K114.1 (Nat.le_of_eq g118.symm)
          have ne_b101_b118 : b101 ≠ b118 := Nat.ne_of_lt (Nat.lt_of_lt_of_le (V112.other W114 ne_b101_b102).lt (Nat.le_of_eq g118.symm))
          have ne_b102_b118 : b102 ≠ b118 := Nat.ne_of_lt (Nat.lt_of_lt_of_le V114.lt (Nat.le_of_eq g118.symm))
          have K118 : Keep h0 h118 [] := K114.ext E118
          have F118_starts : Fld Z h118 b118 "com/example/cairn/cairn/RunContainer" "starts" "[C" .null := D118 (Or.inl (hw _ (List.mem_of_getElem? (i := 23) rfl))) (ty := (.array .char)) (by decide)
          have F118_ends : Fld Z h118 b118 "com/example/cairn/cairn/RunContainer" "ends" "[C" .null := D118 (Or.inl (hw _ (List.mem_of_getElem? (i := 25) rfl))) (ty := (.array .char)) (by decide)
          have F118_size : Fld Z h118 b118 "com/example/cairn/cairn/RunContainer" "size" "I" (.int (0 : Int32)) := D118 (Or.inl (hw _ (List.mem_of_getElem? (i := 27) rfl))) (ty := .int) (by decide)
          have F118_cardinality : Fld Z h118 b118 "com/example/cairn/cairn/RunContainer" "cardinality" "I" (.int (0 : Int32)) := D118 (Or.inl (hw _ (List.mem_of_getElem? (i := 29) rfl))) (ty := .int) (by decide)
          have F118_mayTouch : Fld Z h118 b118 "com/example/cairn/cairn/RunContainer" "mayTouch" "Z" (.int (0 : Int32)) := D118 (Or.inr (hw _ (List.mem_of_getElem? (i := 31) rfl))) (ty := .boolean) (by decide)
          show WP p e below _ (T118.setTop (mkF m 211 #[.val (.int p1), .val (.int p2), .val (.int p3), .val (.int p4), .val (.int (2 : Int32)), .val (.int z87_S0), .val (.int vi89), .val (.int vi90), .val (.int vi92), .val (.int vi93), .val (.int z95_S0), .val (.int vi97), .val (.int vi99), .val (.int vi100), .val (.ref b101), .val (.ref b102), .val (.int vi117), .unset, .unset] [(.ref b118)]))
          refine own_go (fun t_ k => XS.dup X118.here hx rfl (hb hby at_211) rfl rfl k) ?_
          show WP p e below _ (T118.setTop (mkF m 212 #[.val (.int p1), .val (.int p2), .val (.int p3), .val (.int p4), .val (.int (2 : Int32)), .val (.int z87_S0), .val (.int vi89), .val (.int vi90), .val (.int vi92), .val (.int vi93), .val (.int z95_S0), .val (.int vi97), .val (.int vi99), .val (.int vi100), .val (.ref b101), .val (.ref b102), .val (.int vi117), .unset, .unset] [(.ref b118), (.ref b118)]))
          refine own_go (fun t_ k => XS.aload X118.here hx rfl (hb hby at_212) rfl rfl k) ?_
          show WP p e below _ (T118.setTop (mkF m 214 #[.val (.int p1), .val (.int p2), .val (.int p3), .val (.int p4), .val (.int (2 : Int32)), .val (.int z87_S0), .val (.int vi89), .val (.int vi90), .val (.int vi92), .val (.int vi93), .val (.int z95_S0), .val (.int vi97), .val (.int vi99), .val (.int vi100), .val (.ref b101), .val (.ref b102), .val (.int vi117), .unset, .unset] [(.ref b101), (.ref b118), (.ref b118)]))
          refine own_go (fun t_ k => XS.aload X118.here hx rfl (hb hby at_214) rfl rfl k) ?_
          show WP p e below _ (T118.setTop (mkF m 216 #[.val (.int p1), .val (.int p2), .val (.int p3), .val (.int p4), .val (.int (2 : Int32)), .val (.int z87_S0), .val (.int vi89), .val (.int vi90), .val (.int vi92), .val (.int vi93), .val (.int z95_S0), .val (.int vi97), .val (.int vi99), .val (.int vi100), .val (.ref b101), .val (.ref b102), .val (.int vi117), .unset, .unset] [(.ref b102), (.ref b101), (.ref b118), (.ref b118)]))
          refine own_go (fun t_ k => XS.iload X118.here hx rfl (hb hby at_216) rfl k) ?_
          show WP p e below _ (T118.setTop (mkF m 218 #[.val (.int p1), .val (.int p2), .val (.int p3), .val (.int p4), .val (.int (2 : Int32)), .val (.int z87_S0), .val (.int vi89), .val (.int vi90), .val (.int vi92), .val (.int vi93), .val (.int z95_S0), .val (.int vi97), .val (.int vi99), .val (.int vi100), .val (.ref b101), .val (.ref b102), .val (.int vi117), .unset, .unset] [(.int (2 : Int32)), (.ref b102), (.ref b101), (.ref b118), (.ref b118)]))
          refine own_go (fun t_ k => XS.iload X118.here hx rfl (hb hby at_218) rfl k) ?_
          show WP p e below _ (T118.setTop (mkF m 220 #[.val (.int p1), .val (.int p2), .val (.int p3), .val (.int p4), .val (.int (2 : Int32)), .val (.int z87_S0), .val (.int vi89), .val (.int vi90), .val (.int vi92), .val (.int vi93), .val (.int z95_S0), .val (.int vi97), .val (.int vi99), .val (.int vi100), .val (.ref b101), .val (.ref b102), .val (.int vi117), .unset, .unset] [(.int vi117), (.int (2 : Int32)), (.ref b102), (.ref b101), (.ref b118), (.ref b118)]))
          refine own_go (fun t_ k => XS.iload X118.here hx rfl (hb hby at_220) rfl k) ?_
          show WP p e below _ (T118.setTop (mkF m 222 #[.val (.int p1), .val (.int p2), .val (.int p3), .val (.int p4), .val (.int (2 : Int32)), .val (.int z87_S0), .val (.int vi89), .val (.int vi90), .val (.int vi92), .val (.int vi93), .val (.int z95_S0), .val (.int vi97), .val (.int vi99), .val (.int vi100), .val (.ref b101), .val (.ref b102), .val (.int vi117), .unset, .unset] [(.int z87_S0), (.int vi117), (.int (2 : Int32)), (.ref b102), (.ref b101), (.ref b118), (.ref b118)]))
          obtain ⟨_, _, ⟨T119, L119, k119, n119⟩, -, X119, ⟨Lc119, hQ119, l119, y119, z119⟩, st119⟩ := X118.specialBack hx (y := (⟨"com/example/cairn/cairn/RunContainer", "<init>", "([C[CIIZ)V"⟩ : MethodName)) rfl hown (mvT hZ (hw _ (List.mem_of_getElem? (i := 11) rfl))) (mvT hZ (hw _ (List.mem_of_getElem? (i := 12) rfl))) (mvT hZ (hw _ (List.mem_of_getElem? (i := 13) rfl))) (by decide) (backOf (W := 1) (rm2 l Z a0 hw [] b118 b101 b102 (2 : Int32) vi117 z87_S0 h118 n0 A118 g_b118 F118_starts F118_ends F118_size F118_cardinality F118_mayTouch) hZ (hw _ (List.mem_of_getElem? (i := 13) rfl)) (hw _ (List.mem_of_getElem? (i := 10) rfl)) (by decide) (by decide)) (g := (mkF m 222 #[.val (.int p1), .val (.int p2), .val (.int p3), .val (.int p4), .val (.int (2 : Int32)), .val (.int z87_S0), .val (.int vi89), .val (.int vi90), .val (.int vi92), .val (.int vi93), .val (.int z95_S0), .val (.int vi97), .val (.int vi99), .val (.int vi100), .val (.ref b101), .val (.ref b102), .val (.int vi117), .unset, .unset] [(.int z87_S0), (.int vi117), (.int (2 : Int32)), (.ref b102), (.ref b101), (.ref b118), (.ref b118)])) rfl (by rw [hml]; rfl) (Steps.refl _) (a := b118) (argsL := [(.ref b101), (.ref b102), (.int (2 : Int32)), (.int vi117), (.int z87_S0)]) (rest := [(.ref b118)]) (lenOf pd_2 rfl) rfl (by show 2 * 0 + _ ≤ _; exact Nat.le_of_eq rfl) (hb hby at_222) (fun _ _ => ⟨rfl, e118, (by decide : 3 + 0 ≤ _), (by decide : 12 + 0 ≤ _)⟩)
          dsimp only [Pt.U, Pt.locs, Pt.cells, Pt.slots] at X119 l119 y119 z119 st119 hQ119
          subst l119 y119 z119
          obtain ⟨rfl, N119q, K119c, E119c, Fa119, Fb119, Fs119⟩ := hQ119
          have N119 := Fr.app N114 N119q
          replace X119 : Stand p l e room_1 s m _ below meth c T119 _ 3 12 := X119
          refine own_go (fun t_ k => st119.trans k) ?_
          have K119 : Keep h0 T119.heap [] := K118.trans K119c (allS (Or.inr sz_b118) all0)
          show WP p e below _ (T119.setTop (mkF m 225 #[.val (.int p1), .val (.int p2), .val (.int p3), .val (.int p4), .val (.int (2 : Int32)), .val (.int z87_S0), .val (.int vi89), .val (.int vi90), .val (.int vi92), .val (.int vi93), .val (.int z95_S0), .val (.int vi97), .val (.int vi99), .val (.int vi100), .val (.ref b101), .val (.ref b102), .val (.int vi117), .unset, .unset] [(.ref b118)]))
          refine own_go (fun t_ k => XS.astore X119.here hx rfl (hb hby at_225) rfl rfl (l' := #[.val (.int p1), .val (.int p2), .val (.int p3), .val (.int p4), .val (.int (2 : Int32)), .val (.int z87_S0), .val (.int vi89), .val (.int vi90), .val (.int vi92), .val (.int vi93), .val (.int z95_S0), .val (.int vi97), .val (.int vi99), .val (.int vi100), .val (.ref b101), .val (.ref b102), .val (.int vi117), .val (.ref b118), .unset]) rfl k) ?_
          show WP p e below _ (T119.setTop (mkF m 227 #[.val (.int p1), .val (.int p2), .val (.int p3), .val (.int p4), .val (.int (2 : Int32)), .val (.int z87_S0), .val (.int vi89), .val (.int vi90), .val (.int vi92), .val (.int vi93), .val (.int z95_S0), .val (.int vi97), .val (.int vi99), .val (.int vi100), .val (.ref b101), .val (.ref b102), .val (.int vi117), .val (.ref b118), .unset] []))
          refine own_go (fun t_ k => XS.iconst X119.here hx rfl (hb hby at_227) k) ?_
          show WP p e below _ (T119.setTop (mkF m 228 #[.val (.int p1), .val (.int p2), .val (.int p3), .val (.int p4), .val (.int (2 : Int32)), .val (.int z87_S0), .val (.int vi89), .val (.int vi90), .val (.int vi92), .val (.int vi93), .val (.int z95_S0), .val (.int vi97), .val (.int vi99), .val (.int vi100), .val (.ref b101), .val (.ref b102), .val (.int vi117), .val (.ref b118), .unset] [(.int (0 : Int32))]))
          refine own_go (fun t_ k => XS.istore X119.here hx rfl (hb hby at_228) rfl (l' := #[.val (.int p1), .val (.int p2), .val (.int p3), .val (.int p4), .val (.int (2 : Int32)), .val (.int z87_S0), .val (.int vi89), .val (.int vi90), .val (.int vi92), .val (.int vi93), .val (.int z95_S0), .val (.int vi97), .val (.int vi99), .val (.int vi100), .val (.ref b101), .val (.ref b102), .val (.int vi117), .val (.ref b118), .val (.int (0 : Int32))]) rfl k) ?_
          show WP p e below _ (T119.setTop (mkF m 230 #[.val (.int p1), .val (.int p2), .val (.int p3), .val (.int p4), .val (.int (2 : Int32)), .val (.int z87_S0), .val (.int vi89), .val (.int vi90), .val (.int vi92), .val (.int vi93), .val (.int z95_S0), .val (.int vi97), .val (.int vi99), .val (.int vi100), .val (.ref b101), .val (.ref b102), .val (.int vi117), .val (.ref b118), .val (.int (0 : Int32))] []))
          refine own_go (fun t_ k => XS.iload X119.here hx rfl (hb hby at_230) rfl k) ?_
          show WP p e below _ (T119.setTop (mkF m 232 #[.val (.int p1), .val (.int p2), .val (.int p3), .val (.int p4), .val (.int (2 : Int32)), .val (.int z87_S0), .val (.int vi89), .val (.int vi90), .val (.int vi92), .val (.int vi93), .val (.int z95_S0), .val (.int vi97), .val (.int vi99), .val (.int vi100), .val (.ref b101), .val (.ref b102), .val (.int vi117), .val (.ref b118), .val (.int (0 : Int32))] [(.int (2 : Int32))]))
          refine own_go (fun t_ k => XS.iconst X119.here hx rfl (hb hby at_232) k) ?_
          show WP p e below _ (T119.setTop (mkF m 233 #[.val (.int p1), .val (.int p2), .val (.int p3), .val (.int p4), .val (.int (2 : Int32)), .val (.int z87_S0), .val (.int vi89), .val (.int vi90), .val (.int vi92), .val (.int vi93), .val (.int z95_S0), .val (.int vi97), .val (.int vi99), .val (.int vi100), .val (.ref b101), .val (.ref b102), .val (.int vi117), .val (.ref b118), .val (.int (0 : Int32))] [(.int (1 : Int32)), (.int (2 : Int32))]))
          have hc233_120 : ¬ ((2 : Int32) < (1 : Int32)) := by decide
          refine own_go (fun t_ k => XS.icmpNo X119.here hx rfl (hb hby at_233) rfl (flt hc233_120).1 k) ?_
          show WP p e below _ (T119.setTop (mkF m 236 #[.val (.int p1), .val (.int p2), .val (.int p3), .val (.int p4), .val (.int (2 : Int32)), .val (.int z87_S0), .val (.int vi89), .val (.int vi90), .val (.int vi92), .val (.int vi93), .val (.int z95_S0), .val (.int vi97), .val (.int vi99), .val (.int vi100), .val (.ref b101), .val (.ref b102), .val (.int vi117), .val (.ref b118), .val (.int (0 : Int32))] []))
          refine own_go (fun t_ k => XS.iload X119.here hx rfl (hb hby at_236) rfl k) ?_
          show WP p e below _ (T119.setTop (mkF m 238 #[.val (.int p1), .val (.int p2), .val (.int p3), .val (.int p4), .val (.int (2 : Int32)), .val (.int z87_S0), .val (.int vi89), .val (.int vi90), .val (.int vi92), .val (.int vi93), .val (.int z95_S0), .val (.int vi97), .val (.int vi99), .val (.int vi100), .val (.ref b101), .val (.ref b102), .val (.int vi117), .val (.ref b118), .val (.int (0 : Int32))] [(.int (0 : Int32))]))
          refine own_go (fun t_ k => XS.iload X119.here hx rfl (hb hby at_238) rfl k) ?_
          show WP p e below _ (T119.setTop (mkF m 240 #[.val (.int p1), .val (.int p2), .val (.int p3), .val (.int p4), .val (.int (2 : Int32)), .val (.int z87_S0), .val (.int vi89), .val (.int vi90), .val (.int vi92), .val (.int vi93), .val (.int z95_S0), .val (.int vi97), .val (.int vi99), .val (.int vi100), .val (.ref b101), .val (.ref b102), .val (.int vi117), .val (.ref b118), .val (.int (0 : Int32))] [(.int vi92), (.int (0 : Int32))]))
          refine own_go (fun t_ k => XS.iload X119.here hx rfl (hb hby at_240) rfl k) ?_
          show WP p e below _ (T119.setTop (mkF m 242 #[.val (.int p1), .val (.int p2), .val (.int p3), .val (.int p4), .val (.int (2 : Int32)), .val (.int z87_S0), .val (.int vi89), .val (.int vi90), .val (.int vi92), .val (.int vi93), .val (.int z95_S0), .val (.int vi97), .val (.int vi99), .val (.int vi100), .val (.ref b101), .val (.ref b102), .val (.int vi117), .val (.ref b118), .val (.int (0 : Int32))] [(.int vi89), (.int vi92), (.int (0 : Int32))]))
          obtain ⟨_, _, ⟨T121, L121, k121, n121⟩, -, X121, ⟨Lc121, hQ121, l121, y121, z121⟩, st121⟩ := Jvm.LawKit.callS X119 hx (y := (⟨"com/example/cairn/cairn/RunContainerValuesHashPinLaw", "addRun", "(III)I"⟩ : MethodName)) hown (mvT hZ (hw _ (List.mem_of_getElem? (i := 32) rfl))) (mvT hZ (hw _ (List.mem_of_getElem? (i := 33) rfl))) (mvT hZ (hw _ (List.mem_of_getElem? (i := 34) rfl))) (mvT hZ (hw _ (List.mem_of_getElem? (i := 35) rfl))) (by decide) (backOf (W := 0) (rm5 l Z a0 hw [] (0 : Int32) vi92 vi89 T119.heap n0) hZ (hw _ (List.mem_of_getElem? (i := 35) rfl)) (hw _ (List.mem_of_getElem? (i := 34) rfl)) (by decide) (by decide)) (g := (mkF m 242 #[.val (.int p1), .val (.int p2), .val (.int p3), .val (.int p4), .val (.int (2 : Int32)), .val (.int z87_S0), .val (.int vi89), .val (.int vi90), .val (.int vi92), .val (.int vi93), .val (.int z95_S0), .val (.int vi97), .val (.int vi99), .val (.int vi100), .val (.ref b101), .val (.ref b102), .val (.int vi117), .val (.ref b118), .val (.int (0 : Int32))] [(.int vi89), (.int vi92), (.int (0 : Int32))])) rfl (by rw [hml]; rfl) (argsL := [(.int (0 : Int32)), (.int vi92), (.int vi89)]) (rest := []) (lenOf pd_4 rfl) rfl (by show 2 * 0 + _ ≤ _; exact Nat.le_of_eq rfl) (hb hby at_242) (fun _ _ => ⟨rfl, rfl, (by decide : 3 + 0 ≤ _), (by decide : 12 + 0 ≤ _)⟩)
          dsimp only [Pt.U, Pt.locs, Pt.cells, Pt.slots] at X121 l121 y121 z121 st121 hQ121
          subst l121 y121 z121
          obtain ⟨rfl, N121q, e121⟩ := hQ121
          have N121 := Fr.app N119 N121q
          replace X121 : Stand p l e room_1 s m _ below meth c T121 _ 3 12 := X121
          refine own_go st121 ?_
          show WP p e below _ (T121.setTop (mkF m 245 #[.val (.int p1), .val (.int p2), .val (.int p3), .val (.int p4), .val (.int (2 : Int32)), .val (.int z87_S0), .val (.int vi89), .val (.int vi90), .val (.int vi92), .val (.int vi93), .val (.int z95_S0), .val (.int vi97), .val (.int vi99), .val (.int vi100), .val (.ref b101), .val (.ref b102), .val (.int vi117), .val (.ref b118), .val (.int (0 : Int32))] [(.int (f5 (0 : Int32) vi92 vi89))]))
          generalize he122 : (f5 (0 : Int32) vi92 vi89) = vi122
          show WP p e below _ (T121.setTop (mkF m 245 #[.val (.int p1), .val (.int p2), .val (.int p3), .val (.int p4), .val (.int (2 : Int32)), .val (.int z87_S0), .val (.int vi89), .val (.int vi90), .val (.int vi92), .val (.int vi93), .val (.int z95_S0), .val (.int vi97), .val (.int vi99), .val (.int vi100), .val (.ref b101), .val (.ref b102), .val (.int vi117), .val (.ref b118), .val (.int (0 : Int32))] [(.int vi122)]))
          refine own_go (fun t_ k => XS.istore X121.here hx rfl (hb hby at_245) rfl (l' := #[.val (.int p1), .val (.int p2), .val (.int p3), .val (.int p4), .val (.int (2 : Int32)), .val (.int z87_S0), .val (.int vi89), .val (.int vi90), .val (.int vi92), .val (.int vi93), .val (.int z95_S0), .val (.int vi97), .val (.int vi99), .val (.int vi100), .val (.ref b101), .val (.ref b102), .val (.int vi117), .val (.ref b118), .val (.int vi122)]) rfl k) ?_
          show WP p e below _ (T121.setTop (mkF m 247 #[.val (.int p1), .val (.int p2), .val (.int p3), .val (.int p4), .val (.int (2 : Int32)), .val (.int z87_S0), .val (.int vi89), .val (.int vi90), .val (.int vi92), .val (.int vi93), .val (.int z95_S0), .val (.int vi97), .val (.int vi99), .val (.int vi100), .val (.ref b101), .val (.ref b102), .val (.int vi117), .val (.ref b118), .val (.int vi122)] []))
          refine own_go (fun t_ k => XS.iload X121.here hx rfl (hb hby at_247) rfl k) ?_
          show WP p e below _ (T121.setTop (mkF m 249 #[.val (.int p1), .val (.int p2), .val (.int p3), .val (.int p4), .val (.int (2 : Int32)), .val (.int z87_S0), .val (.int vi89), .val (.int vi90), .val (.int vi92), .val (.int vi93), .val (.int z95_S0), .val (.int vi97), .val (.int vi99), .val (.int vi100), .val (.ref b101), .val (.ref b102), .val (.int vi117), .val (.ref b118), .val (.int vi122)] [(.int (2 : Int32))]))
          refine own_go (fun t_ k => XS.iconst X121.here hx rfl (hb hby at_249) k) ?_
          show WP p e below _ (T121.setTop (mkF m 250 #[.val (.int p1), .val (.int p2), .val (.int p3), .val (.int p4), .val (.int (2 : Int32)), .val (.int z87_S0), .val (.int vi89), .val (.int vi90), .val (.int vi92), .val (.int vi93), .val (.int z95_S0), .val (.int vi97), .val (.int vi99), .val (.int vi100), .val (.ref b101), .val (.ref b102), .val (.int vi117), .val (.ref b118), .val (.int vi122)] [(.int (2 : Int32)), (.int (2 : Int32))]))
          have hc250_123 : ¬ ((2 : Int32) < (2 : Int32)) := by decide
          refine own_go (fun t_ k => XS.icmpNo X121.here hx rfl (hb hby at_250) rfl (flt hc250_123).1 k) ?_
          show WP p e below _ (T121.setTop (mkF m 253 #[.val (.int p1), .val (.int p2), .val (.int p3), .val (.int p4), .val (.int (2 : Int32)), .val (.int z87_S0), .val (.int vi89), .val (.int vi90), .val (.int vi92), .val (.int vi93), .val (.int z95_S0), .val (.int vi97), .val (.int vi99), .val (.int vi100), .val (.ref b101), .val (.ref b102), .val (.int vi117), .val (.ref b118), .val (.int vi122)] []))
          refine own_go (fun t_ k => XS.iload X121.here hx rfl (hb hby at_253) rfl k) ?_
          show WP p e below _ (T121.setTop (mkF m 255 #[.val (.int p1), .val (.int p2), .val (.int p3), .val (.int p4), .val (.int (2 : Int32)), .val (.int z87_S0), .val (.int vi89), .val (.int vi90), .val (.int vi92), .val (.int vi93), .val (.int z95_S0), .val (.int vi97), .val (.int vi99), .val (.int vi100), .val (.ref b101), .val (.ref b102), .val (.int vi117), .val (.ref b118), .val (.int vi122)] [(.int vi122)]))
          refine own_go (fun t_ k => XS.iload X121.here hx rfl (hb hby at_255) rfl k) ?_
          show WP p e below _ (T121.setTop (mkF m 257 #[.val (.int p1), .val (.int p2), .val (.int p3), .val (.int p4), .val (.int (2 : Int32)), .val (.int z87_S0), .val (.int vi89), .val (.int vi90), .val (.int vi92), .val (.int vi93), .val (.int z95_S0), .val (.int vi97), .val (.int vi99), .val (.int vi100), .val (.ref b101), .val (.ref b102), .val (.int vi117), .val (.ref b118), .val (.int vi122)] [(.int vi99), (.int vi122)]))
          refine own_go (fun t_ k => XS.iload X121.here hx rfl (hb hby at_257) rfl k) ?_
          show WP p e below _ (T121.setTop (mkF m 259 #[.val (.int p1), .val (.int p2), .val (.int p3), .val (.int p4), .val (.int (2 : Int32)), .val (.int z87_S0), .val (.int vi89), .val (.int vi90), .val (.int vi92), .val (.int vi93), .val (.int z95_S0), .val (.int vi97), .val (.int vi99), .val (.int vi100), .val (.ref b101), .val (.ref b102), .val (.int vi117), .val (.ref b118), .val (.int vi122)] [(.int vi90), (.int vi99), (.int vi122)]))
          obtain ⟨_, _, ⟨T124, L124, k124, n124⟩, -, X124, ⟨Lc124, hQ124, l124, y124, z124⟩, st124⟩ := Jvm.LawKit.callS X121 hx (y := (⟨"com/example/cairn/cairn/RunContainerValuesHashPinLaw", "addRun", "(III)I"⟩ : MethodName)) hown (mvT hZ (hw _ (List.mem_of_getElem? (i := 32) rfl))) (mvT hZ (hw _ (List.mem_of_getElem? (i := 33) rfl))) (mvT hZ (hw _ (List.mem_of_getElem? (i := 34) rfl))) (mvT hZ (hw _ (List.mem_of_getElem? (i := 35) rfl))) (by decide) (backOf (W := 0) (rm5 l Z a0 hw [] vi122 vi99 vi90 T119.heap n0) hZ (hw _ (List.mem_of_getElem? (i := 35) rfl)) (hw _ (List.mem_of_getElem? (i := 34) rfl)) (by decide) (by decide)) (g := (mkF m 259 #[.val (.int p1), .val (.int p2), .val (.int p3), .val (.int p4), .val (.int (2 : Int32)), .val (.int z87_S0), .val (.int vi89), .val (.int vi90), .val (.int vi92), .val (.int vi93), .val (.int z95_S0), .val (.int vi97), .val (.int vi99), .val (.int vi100), .val (.ref b101), .val (.ref b102), .val (.int vi117), .val (.ref b118), .val (.int vi122)] [(.int vi90), (.int vi99), (.int vi122)])) rfl (by rw [hml]; rfl) (argsL := [(.int vi122), (.int vi99), (.int vi90)]) (rest := []) (lenOf pd_4 rfl) rfl (by show 2 * 0 + _ ≤ _; exact Nat.le_of_eq rfl) (hb hby at_259) (fun _ _ => ⟨rfl, e121, (by decide : 3 + 0 ≤ _), (by decide : 12 + 0 ≤ _)⟩)
          dsimp only [Pt.U, Pt.locs, Pt.cells, Pt.slots] at X124 l124 y124 z124 st124 hQ124
          subst l124 y124 z124
          obtain ⟨rfl, N124q, e124⟩ := hQ124
          have N124 := Fr.app N121 N124q
          replace X124 : Stand p l e room_1 s m _ below meth c T124 _ 3 12 := X124
          refine own_go st124 ?_
          show WP p e below _ (T124.setTop (mkF m 262 #[.val (.int p1), .val (.int p2), .val (.int p3), .val (.int p4), .val (.int (2 : Int32)), .val (.int z87_S0), .val (.int vi89), .val (.int vi90), .val (.int vi92), .val (.int vi93), .val (.int z95_S0), .val (.int vi97), .val (.int vi99), .val (.int vi100), .val (.ref b101), .val (.ref b102), .val (.int vi117), .val (.ref b118), .val (.int vi122)] [(.int (f5 vi122 vi99 vi90))]))
          generalize he125 : (f5 vi122 vi99 vi90) = vi125
          show WP p e below _ (T124.setTop (mkF m 262 #[.val (.int p1), .val (.int p2), .val (.int p3), .val (.int p4), .val (.int (2 : Int32)), .val (.int z87_S0), .val (.int vi89), .val (.int vi90), .val (.int vi92), .val (.int vi93), .val (.int z95_S0), .val (.int vi97), .val (.int vi99), .val (.int vi100), .val (.ref b101), .val (.ref b102), .val (.int vi117), .val (.ref b118), .val (.int vi122)] [(.int vi125)]))
          refine own_go (fun t_ k => XS.istore X124.here hx rfl (hb hby at_262) rfl (l' := #[.val (.int p1), .val (.int p2), .val (.int p3), .val (.int p4), .val (.int (2 : Int32)), .val (.int z87_S0), .val (.int vi89), .val (.int vi90), .val (.int vi92), .val (.int vi93), .val (.int z95_S0), .val (.int vi97), .val (.int vi99), .val (.int vi100), .val (.ref b101), .val (.ref b102), .val (.int vi117), .val (.ref b118), .val (.int vi125)]) rfl k) ?_
          show WP p e below _ (T124.setTop (mkF m 264 #[.val (.int p1), .val (.int p2), .val (.int p3), .val (.int p4), .val (.int (2 : Int32)), .val (.int z87_S0), .val (.int vi89), .val (.int vi90), .val (.int vi92), .val (.int vi93), .val (.int z95_S0), .val (.int vi97), .val (.int vi99), .val (.int vi100), .val (.ref b101), .val (.ref b102), .val (.int vi117), .val (.ref b118), .val (.int vi125)] []))
          refine own_go (fun t_ k => XS.aload X124.here hx rfl (hb hby at_264) rfl rfl k) ?_
          show WP p e below _ (T124.setTop (mkF m 266 #[.val (.int p1), .val (.int p2), .val (.int p3), .val (.int p4), .val (.int (2 : Int32)), .val (.int z87_S0), .val (.int vi89), .val (.int vi90), .val (.int vi92), .val (.int vi93), .val (.int z95_S0), .val (.int vi97), .val (.int vi99), .val (.int vi100), .val (.ref b101), .val (.ref b102), .val (.int vi117), .val (.ref b118), .val (.int vi125)] [(.ref b118)]))
          obtain ⟨y0, y1, y2⟩ := own_runs (own_r0 he89 he92 he93)
          obtain ⟨x0, x1, x2⟩ := own_runs (own_r1 he90 (by have q := own_r0 he89 he92 he93; omega) (own_r0 he89 he92 he93).2.1 (own_gap hz95_S0) he97 hc91_98 he99 he100)
          obtain ⟨cq126, kq126, q126a, q126b, q126c⟩ := isOf (T := T124) hZ e124 E119c
          obtain ⟨_, _, ⟨T126, L126, k126, n126⟩, -, X126, ⟨Lc126, hQ126, l126, y126, z126⟩, st126⟩ := X124.virtualBack hx (y := (⟨"com/example/cairn/cairn/RunContainer", "valuesHash", "()I"⟩ : MethodName)) (z := (⟨"com/example/cairn/cairn/RunContainer", "valuesHash", "()I"⟩ : MethodName)) hown (mvT hZ (hw _ (List.mem_of_getElem? (i := 36) rfl))) (mvT hZ (hw _ (List.mem_of_getElem? (i := 37) rfl))) (notFace_of_selects (args := #[]) (mvT hZ (hw _ (List.mem_of_getElem? (i := 39) rfl)))) (mvT hZ (hw _ (List.mem_of_getElem? (i := 39) rfl))) (mvT hZ (hw _ (List.mem_of_getElem? (i := 38) rfl))) (by decide) (backOf (W := 0) (rm6_2 l Z a0 hw [] b118 b101 b102 k101 k102 ((vi92.toUInt32.toUInt16.toUInt32.toInt32).toUInt32.toUInt16.toUInt32.toInt32) ((vi99.toUInt32.toUInt16.toUInt32.toInt32).toUInt32.toUInt16.toUInt32.toInt32) ((vi93.toUInt32.toUInt16.toUInt32.toInt32).toUInt32.toUInt16.toUInt32.toInt32) ((vi100.toUInt32.toUInt16.toUInt32.toInt32).toUInt32.toUInt16.toUInt32.toInt32) (vi89).toInt.toNat (vi90).toInt.toNat T119.heap n0 Fa119 Fb119 Fs119 (((V112.other W114 ne_b101_b102).ext E118).keep K119c (ninS ne_b101_b118 nin0)) ((V114.ext E118).keep K119c (ninS ne_b102_b118 nin0)) y0 y1 y2 x0 x1 x2) hZ (hw _ (List.mem_of_getElem? (i := 40) rfl)) (hw _ (List.mem_of_getElem? (i := 10) rfl)) (by decide) (by decide)) q126a q126c (g := (mkF m 266 #[.val (.int p1), .val (.int p2), .val (.int p3), .val (.int p4), .val (.int (2 : Int32)), .val (.int z87_S0), .val (.int vi89), .val (.int vi90), .val (.int vi92), .val (.int vi93), .val (.int z95_S0), .val (.int vi97), .val (.int vi99), .val (.int vi100), .val (.ref b101), .val (.ref b102), .val (.int vi117), .val (.ref b118), .val (.int vi125)] [(.ref b118)])) rfl (by rw [hml]; rfl) (Steps.refl _) (argsL := []) (rest := []) (lenOf pd_3 rfl) rfl (by show 2 * 0 + _ ≤ _; exact Nat.le_of_eq rfl) (hb hby at_266) (fun _ _ => ⟨rfl, e124, (by decide : 3 + 0 ≤ _), (by decide : 12 + 0 ≤ _)⟩)
          dsimp only [Pt.U, Pt.locs, Pt.cells, Pt.slots] at X126 l126 y126 z126 st126 hQ126
          subst l126 y126 z126
          obtain ⟨rfl, N126q, e126⟩ := hQ126
          have N126 := Fr.app N124 N126q
          replace X126 : Stand p l e room_1 s m _ below meth c T126 _ 3 12 := X126
          refine own_go (fun t_ k => st126.trans k) ?_
          show WP p e below _ (T126.setTop (mkF m 269 #[.val (.int p1), .val (.int p2), .val (.int p3), .val (.int p4), .val (.int (2 : Int32)), .val (.int z87_S0), .val (.int vi89), .val (.int vi90), .val (.int vi92), .val (.int vi93), .val (.int z95_S0), .val (.int vi97), .val (.int vi99), .val (.int vi100), .val (.ref b101), .val (.ref b102), .val (.int vi117), .val (.ref b118), .val (.int vi125)] [(.int (hr (hr 0 ((vi92.toUInt32.toUInt16.toUInt32.toInt32).toUInt32.toUInt16.toUInt32.toInt32) (vi89).toInt.toNat) ((vi99.toUInt32.toUInt16.toUInt32.toInt32).toUInt32.toUInt16.toUInt32.toInt32) (vi90).toInt.toNat))]))
          generalize he127 : (hr (hr 0 ((vi92.toUInt32.toUInt16.toUInt32.toInt32).toUInt32.toUInt16.toUInt32.toInt32) (vi89).toInt.toNat) ((vi99.toUInt32.toUInt16.toUInt32.toInt32).toUInt32.toUInt16.toUInt32.toInt32) (vi90).toInt.toNat) = vi127
          show WP p e below _ (T126.setTop (mkF m 269 #[.val (.int p1), .val (.int p2), .val (.int p3), .val (.int p4), .val (.int (2 : Int32)), .val (.int z87_S0), .val (.int vi89), .val (.int vi90), .val (.int vi92), .val (.int vi93), .val (.int z95_S0), .val (.int vi97), .val (.int vi99), .val (.int vi100), .val (.ref b101), .val (.ref b102), .val (.int vi117), .val (.ref b118), .val (.int vi125)] [(.int vi127)]))
          refine own_go (fun t_ k => XS.iload X126.here hx rfl (hb hby at_269) rfl k) ?_
          show WP p e below _ (T126.setTop (mkF m 271 #[.val (.int p1), .val (.int p2), .val (.int p3), .val (.int p4), .val (.int (2 : Int32)), .val (.int z87_S0), .val (.int vi89), .val (.int vi90), .val (.int vi92), .val (.int vi93), .val (.int z95_S0), .val (.int vi97), .val (.int vi99), .val (.int vi100), .val (.ref b101), .val (.ref b102), .val (.int vi117), .val (.ref b118), .val (.int vi125)] [(.int vi125), (.int vi127)]))
          have J130 : ∀ (T130 : State) (ls130 : List Loc) (X130 : Stand p l e room_1 s m #[(.int p1), (.int p2), (.int p3), (.int p4)] below meth c T130 ls130 3 12) (N130 : Fr n0 ls130) (e130 : T130.heap = T119.heap) (z129_S0 : Int32) (hz129_S0 : z129_S0 = (if vi127 = vi125 then (1 : Int32) else (0 : Int32))), WP p e below (GG (Q0 n0) s room_1.cells room_1.slots) (T130.setTop (mkF m 279 #[.val (.int p1), .val (.int p2), .val (.int p3), .val (.int p4), .val (.int (2 : Int32)), .val (.int z87_S0), .val (.int vi89), .val (.int vi90), .val (.int vi92), .val (.int vi93), .val (.int z95_S0), .val (.int vi97), .val (.int vi99), .val (.int vi100), .val (.ref b101), .val (.ref b102), .val (.int vi117), .val (.ref b118), .val (.int vi125)] [(.int z129_S0)])) := by
            intro T130 ls130 X130 N130 e130 z129_S0 hz129_S0
            show WP p e below _ (T130.setTop (mkF m 279 #[.val (.int p1), .val (.int p2), .val (.int p3), .val (.int p4), .val (.int (2 : Int32)), .val (.int z87_S0), .val (.int vi89), .val (.int vi90), .val (.int vi92), .val (.int vi93), .val (.int z95_S0), .val (.int vi97), .val (.int vi99), .val (.int vi100), .val (.ref b101), .val (.ref b102), .val (.int vi117), .val (.ref b118), .val (.int vi125)] [(.int z129_S0)]))
            exact own_retZ X130 hx Bd.notSynchronized Bd.returns (hb hby at_279) (by rw [hz129_S0]; (repeat' split); all_goals first | exact Or.inl rfl | exact Or.inr rfl) (show Q0 n0 _ _ _ from ⟨congrArg (fun z => some (Value.int z)) (own_law_2 (p1 := p1) (p2 := p2) (p3 := p3) (p4 := p4) he2 hz87_S0 he89 he90 he92 he93 hz95_S0 he97 he99 he100 he117 he122 he125 he127 hz129_S0 hc91_98), N130⟩) (by decide) (by decide)
          by_cases hc271_128 : vi127 = vi125
          · refine own_go (fun t_ k => XS.icmpNo X126.here hx rfl (hb hby at_271) rfl (teq hc271_128).2 k) ?_
            show WP p e below _ (T126.setTop (mkF m 274 #[.val (.int p1), .val (.int p2), .val (.int p3), .val (.int p4), .val (.int (2 : Int32)), .val (.int z87_S0), .val (.int vi89), .val (.int vi90), .val (.int vi92), .val (.int vi93), .val (.int z95_S0), .val (.int vi97), .val (.int vi99), .val (.int vi100), .val (.ref b101), .val (.ref b102), .val (.int vi117), .val (.ref b118), .val (.int vi125)] []))
            refine own_go (fun t_ k => XS.iconst X126.here hx rfl (hb hby at_274) k) ?_
            show WP p e below _ (T126.setTop (mkF m 275 #[.val (.int p1), .val (.int p2), .val (.int p3), .val (.int p4), .val (.int (2 : Int32)), .val (.int z87_S0), .val (.int vi89), .val (.int vi90), .val (.int vi92), .val (.int vi93), .val (.int z95_S0), .val (.int vi97), .val (.int vi99), .val (.int vi100), .val (.ref b101), .val (.ref b102), .val (.int vi117), .val (.ref b118), .val (.int vi125)] [(.int (1 : Int32))]))
            refine own_go (fun t_ k => XS.goto X126.here hx rfl (pc0 := 275) (pc' := 279) rfl (hb hby at_275) (by decide) (by decide) k) ?_
            show WP p e below _ (T126.setTop (mkF m 279 #[.val (.int p1), .val (.int p2), .val (.int p3), .val (.int p4), .val (.int (2 : Int32)), .val (.int z87_S0), .val (.int vi89), .val (.int vi90), .val (.int vi92), .val (.int vi93), .val (.int z95_S0), .val (.int vi97), .val (.int vi99), .val (.int vi100), .val (.ref b101), .val (.ref b102), .val (.int vi117), .val (.ref b118), .val (.int vi125)] [(.int (1 : Int32))]))
            exact J130 T126 _ X126 N126 e126 _ (by rw [if_pos hc271_128])
          · refine own_go (fun t_ k => XS.icmpYes X126.here hx rfl (pc0 := 271) (pc' := 278) rfl (hb hby at_271) rfl (feq hc271_128).2 (by decide) (by decide) k) ?_
            show WP p e below _ (T126.setTop (mkF m 278 #[.val (.int p1), .val (.int p2), .val (.int p3), .val (.int p4), .val (.int (2 : Int32)), .val (.int z87_S0), .val (.int vi89), .val (.int vi90), .val (.int vi92), .val (.int vi93), .val (.int z95_S0), .val (.int vi97), .val (.int vi99), .val (.int vi100), .val (.ref b101), .val (.ref b102), .val (.int vi117), .val (.ref b118), .val (.int vi125)] []))
            refine own_go (fun t_ k => XS.iconst X126.here hx rfl (hb hby at_278) k) ?_
            show WP p e below _ (T126.setTop (mkF m 279 #[.val (.int p1), .val (.int p2), .val (.int p3), .val (.int p4), .val (.int (2 : Int32)), .val (.int z87_S0), .val (.int vi89), .val (.int vi90), .val (.int vi92), .val (.int vi93), .val (.int z95_S0), .val (.int vi97), .val (.int vi99), .val (.int vi100), .val (.ref b101), .val (.ref b102), .val (.int vi117), .val (.ref b118), .val (.int vi125)] [(.int (0 : Int32))]))
            exact J130 T126 _ X126 N126 e126 _ (by rw [if_neg hc271_128])
        · refine own_go (fun t_ k => XS.ifYes X96.here hx rfl (pc0 := 91) (pc' := 114) rfl (hb hby at_91) rfl ((if0 _ _).trans (flt hc91_98).2.2.2) (by decide) (by decide) k) ?_
          show WP p e below _ (T96.setTop (mkF m 114 #[.val (.int p1), .val (.int p2), .val (.int p3), .val (.int p4), .val (.int (2 : Int32)), .val (.int z87_S0), .val (.int vi89), .val (.int vi90), .val (.int vi92), .val (.int vi93), .val (.int z95_S0), .val (.int vi97), .val (.int (0 : Int32)), .unset, .unset, .unset, .unset, .unset, .unset] []))
          refine own_go (fun t_ k => XS.iload X96.here hx rfl (hb hby at_114) rfl k) ?_
          show WP p e below _ (T96.setTop (mkF m 116 #[.val (.int p1), .val (.int p2), .val (.int p3), .val (.int p4), .val (.int (2 : Int32)), .val (.int z87_S0), .val (.int vi89), .val (.int vi90), .val (.int vi92), .val (.int vi93), .val (.int z95_S0), .val (.int vi97), .val (.int (0 : Int32)), .unset, .unset, .unset, .unset, .unset, .unset] [(.int (2 : Int32))]))
          refine own_go (fun t_ k => XS.iconst X96.here hx rfl (hb hby at_116) k) ?_
          show WP p e below _ (T96.setTop (mkF m 117 #[.val (.int p1), .val (.int p2), .val (.int p3), .val (.int p4), .val (.int (2 : Int32)), .val (.int z87_S0), .val (.int vi89), .val (.int vi90), .val (.int vi92), .val (.int vi93), .val (.int z95_S0), .val (.int vi97), .val (.int (0 : Int32)), .unset, .unset, .unset, .unset, .unset, .unset] [(.int (2 : Int32)), (.int (2 : Int32))]))
          have hc117_131 : ((2 : Int32) = (2 : Int32)) := by decide
          refine own_go (fun t_ k => XS.icmpNo X96.here hx rfl (hb hby at_117) rfl (teq hc117_131).2 k) ?_
          show WP p e below _ (T96.setTop (mkF m 120 #[.val (.int p1), .val (.int p2), .val (.int p3), .val (.int p4), .val (.int (2 : Int32)), .val (.int z87_S0), .val (.int vi89), .val (.int vi90), .val (.int vi92), .val (.int vi93), .val (.int z95_S0), .val (.int vi97), .val (.int (0 : Int32)), .unset, .unset, .unset, .unset, .unset, .unset] []))
          refine own_go (fun t_ k => XS.iconst X96.here hx rfl (hb hby at_120) k) ?_
          show WP p e below _ (T96.setTop (mkF m 121 #[.val (.int p1), .val (.int p2), .val (.int p3), .val (.int p4), .val (.int (2 : Int32)), .val (.int z87_S0), .val (.int vi89), .val (.int vi90), .val (.int vi92), .val (.int vi93), .val (.int z95_S0), .val (.int vi97), .val (.int (0 : Int32)), .unset, .unset, .unset, .unset, .unset, .unset] [(.int (1 : Int32))]))
          exact own_retZ X96 hx Bd.notSynchronized Bd.returns (hb hby at_121) (by decide) (show Q0 n0 _ _ _ from ⟨rfl, N96⟩) (by decide) (by decide)
      by_cases hc63_94 : z87_S0 = (0 : Int32)
      · refine own_go (fun t_ k => XS.ifYes X91.here hx rfl (pc0 := 63) (pc' := 70) rfl (hb hby at_63) rfl ((if0 _ _).trans (teq hc63_94).1) (by decide) (by decide) k) ?_
        show WP p e below _ (T91.setTop (mkF m 70 #[.val (.int p1), .val (.int p2), .val (.int p3), .val (.int p4), .val (.int (2 : Int32)), .val (.int z87_S0), .val (.int vi89), .val (.int vi90), .val (.int vi92), .val (.int vi93), .unset, .unset, .unset, .unset, .unset, .unset, .unset, .unset, .unset] []))
        refine own_go (fun t_ k => XS.iconst X91.here hx rfl (hb hby at_70) k) ?_
        show WP p e below _ (T91.setTop (mkF m 71 #[.val (.int p1), .val (.int p2), .val (.int p3), .val (.int p4), .val (.int (2 : Int32)), .val (.int z87_S0), .val (.int vi89), .val (.int vi90), .val (.int vi92), .val (.int vi93), .unset, .unset, .unset, .unset, .unset, .unset, .unset, .unset, .unset] [(.int (1 : Int32))]))
        exact J96 T91 _ X91 N91 e91 _ (by rw [if_pos hc63_94])
      · refine own_go (fun t_ k => XS.ifNo X91.here hx rfl (hb hby at_63) rfl ((if0 _ _).trans (feq hc63_94).1) k) ?_
        show WP p e below _ (T91.setTop (mkF m 66 #[.val (.int p1), .val (.int p2), .val (.int p3), .val (.int p4), .val (.int (2 : Int32)), .val (.int z87_S0), .val (.int vi89), .val (.int vi90), .val (.int vi92), .val (.int vi93), .unset, .unset, .unset, .unset, .unset, .unset, .unset, .unset, .unset] []))
        refine own_go (fun t_ k => XS.iconst X91.here hx rfl (hb hby at_66) k) ?_
        show WP p e below _ (T91.setTop (mkF m 67 #[.val (.int p1), .val (.int p2), .val (.int p3), .val (.int p4), .val (.int (2 : Int32)), .val (.int z87_S0), .val (.int vi89), .val (.int vi90), .val (.int vi92), .val (.int vi93), .unset, .unset, .unset, .unset, .unset, .unset, .unset, .unset, .unset] [(.int (0 : Int32))]))
        refine own_go (fun t_ k => XS.goto X91.here hx rfl (pc0 := 67) (pc' := 71) rfl (hb hby at_67) (by decide) (by decide) k) ?_
        show WP p e below _ (T91.setTop (mkF m 71 #[.val (.int p1), .val (.int p2), .val (.int p3), .val (.int p4), .val (.int (2 : Int32)), .val (.int z87_S0), .val (.int vi89), .val (.int vi90), .val (.int vi92), .val (.int vi93), .unset, .unset, .unset, .unset, .unset, .unset, .unset, .unset, .unset] [(.int (0 : Int32))]))
        exact J96 T91 _ X91 N91 e91 _ (by rw [if_neg hc63_94])
    by_cases hc12_86 : (p4 &&& (4 : Int32)) = (0 : Int32)
    · refine own_go (fun t_ k => XS.ifYes X1.here hx rfl (pc0 := 12) (pc' := 19) rfl (hb hby at_12) rfl ((if0 _ _).trans (teq hc12_86).1) (by decide) (by decide) k) ?_
      show WP p e below _ (T1.setTop (mkF m 19 #[.val (.int p1), .val (.int p2), .val (.int p3), .val (.int p4), .val (.int (2 : Int32)), .unset, .unset, .unset, .unset, .unset, .unset, .unset, .unset, .unset, .unset, .unset, .unset, .unset, .unset] []))
      refine own_go (fun t_ k => XS.iconst X1.here hx rfl (hb hby at_19) k) ?_
      show WP p e below _ (T1.setTop (mkF m 20 #[.val (.int p1), .val (.int p2), .val (.int p3), .val (.int p4), .val (.int (2 : Int32)), .unset, .unset, .unset, .unset, .unset, .unset, .unset, .unset, .unset, .unset, .unset, .unset, .unset, .unset] [(.int (0 : Int32))]))
      exact J88 T1 _ X1 N1 e1 _ (by rw [if_pos hc12_86])
    · refine own_go (fun t_ k => XS.ifNo X1.here hx rfl (hb hby at_12) rfl ((if0 _ _).trans (feq hc12_86).1) k) ?_
      show WP p e below _ (T1.setTop (mkF m 15 #[.val (.int p1), .val (.int p2), .val (.int p3), .val (.int p4), .val (.int (2 : Int32)), .unset, .unset, .unset, .unset, .unset, .unset, .unset, .unset, .unset, .unset, .unset, .unset, .unset, .unset] []))
      refine own_go (fun t_ k => XS.iconst X1.here hx rfl (hb hby at_15) k) ?_
      show WP p e below _ (T1.setTop (mkF m 16 #[.val (.int p1), .val (.int p2), .val (.int p3), .val (.int p4), .val (.int (2 : Int32)), .unset, .unset, .unset, .unset, .unset, .unset, .unset, .unset, .unset, .unset, .unset, .unset, .unset, .unset] [(.int (1 : Int32))]))
      refine own_go (fun t_ k => XS.goto X1.here hx rfl (pc0 := 16) (pc' := 20) rfl (hb hby at_16) (by decide) (by decide) k) ?_
      show WP p e below _ (T1.setTop (mkF m 20 #[.val (.int p1), .val (.int p2), .val (.int p3), .val (.int p4), .val (.int (2 : Int32)), .unset, .unset, .unset, .unset, .unset, .unset, .unset, .unset, .unset, .unset, .unset, .unset, .unset, .unset] [(.int (1 : Int32))]))
      exact J88 T1 _ X1 N1 e1 _ (by rw [if_neg hc12_86])
set_option maxRecDepth 65536 in
set_option maxHeartbeats 40000000 in
theorem comes_1 {Post : Tables → Env → Array Value → State → Outcome → State → Prop} (hpost : ∀ tb e args s v u, (limb_1_1.after args s (.returned v) u = true ∧ limb_1_2.after args s (.returned v) u = true ∧ True) → FrameEnd s (.returned v) u (Jvm.fieldLocs frame_1_writes args s ++ Jvm.arrayLocs frame_1_arrays args s ++ Jvm.staticLocs frame_1_statics s) 16 128 → Post tb e args s (.returned v) u) :
    ArmFor flags0 classFile x code maxLocals ret World_1 tables_1 room_1 Calls_1 rest_1 Pre_1 Post := by
  intro l hfl _ _ p e ha hc hk s m args below hf hA hF happ hP
  obtain ⟨hcalls, hrest, hpre⟩ := hP
  obtain ⟨-, -, -, hnamed, -, -, -, hat⟩ := (Spec.applies_iff hf).mp happ
  obtain ⟨hg, hn⟩ := and_e (Cond.before_iff.mp (show (Jvm.Cond.and given_1 narrow_1).before args s = true from hpre))
  obtain ⟨g1, g2⟩ := and_e hg
  obtain ⟨g3, g4⟩ := and_e g2
  obtain ⟨g5, g6⟩ := and_e g4
  obtain ⟨g7, g8⟩ := and_e g6
  obtain ⟨w0, w1, w2, w3, rfl⟩ : ∃ w0 w1 w2 w3 : Value, args = #[w0, w1, w2, w3] := by
    have hs : args.size = 4 := by simpa [Cond.value, given_1] using g1
    obtain ⟨L⟩ := args
    match L, hs with
    | [w0, w1, w2, w3], _ => exact ⟨w0, w1, w2, w3, rfl⟩
  have hw := fun d (hd : d ∈ tables_1) => atoms_spec (ws := Jvm.Cond.code x code maxLocals ret :: tables_1) hat d (List.mem_cons_of_mem _ hd)
  have hfit : Fit s := fun {y c} hc i hi => by
    obtain ⟨ha, rfl⟩ := Array.getElem?_eq_some_iff.mp hc
    have q := List.all_eq_true.mp ((Array.all_eq_true_iff_forall_mem.mp hF) _ (Array.getElem_mem ha)) i (List.mem_range.mpr hi)
    simpa [Array.getElem?_eq_getElem hi] using q
  obtain ⟨i0, ei0⟩ := is_v g3
  obtain rfl : w0 = (.int i0) := Option.some.inj ei0
  obtain ⟨i1, ei1⟩ := is_v g5
  obtain rfl : w1 = (.int i1) := Option.some.inj ei1
  obtain ⟨i2, ei2⟩ := is_v g7
  obtain rfl : w2 = (.int i2) := Option.some.inj ei2
  obtain ⟨i3, ei3⟩ := is_v g8
  obtain rfl : w3 = (.int i3) := Option.some.inj ei3
  obtain ⟨n, o, h1, h2, h3, _, L, rfl, ⟨rfl, N⟩, hq⟩ := rm0 l s _ hw tables_1 i0 i1 i2 i3 s.heap s.heap.size (Nat.le_refl _) p e ha hc hk s m _ below hf ((Spec.applies_iff_loose hf).mp happ).1 ⟨rfl, State.Warmed39.refl s, rfl⟩ trivial
  refine ⟨n, _, h1, h2, h3, hpost _ _ _ _ _ _ ⟨Cond.after_iff.mpr rfl, Cond.after_iff.mpr (eq_i res_at (Term.int_eval (1)) rfl), trivial⟩ ⟨hq.1, hq.2.1, (hq.2.2.sift fun y hy => Or.inr (N y hy)).mono (by decide) (by decide)⟩⟩
theorem main_1_1 : Claimed_1_1 := comes_1 fun _ _ _ _ _ _ h hF => ⟨h.1, hF⟩
theorem main_1_2 : Claimed_1_2 := comes_1 fun _ _ _ _ _ _ h hF => ⟨h.2.1, hF⟩
end Jvm.Pilot.@@N@@
namespace Jvm.Pilot.@@N@@
open Jvm Jvm.ClassFile Sem Op Lib Jvm.Free Jvm.Stand Jvm.Pilot.@@N@@.Jvm.D
/-! MADE BY PROGRAM (witnessworld.py) out of the Statement's table words and the real class files: 16 classes; the members and pool entries that the words name. The judged class is class 1, her method 2. -/
namespace start1
open Jvm.ClassFile
def u (s : String) : CpInfo := .utf8 (stringToUtf16 s)
/-- a pool by its gaps: so many unusable entries, then the entry; so many at the end -/
def gap : Nat → List CpInfo → List CpInfo
  | 0, r => r
  | n + 1, r => .unusable :: gap n r
def poolList (es : List (Nat × CpInfo)) (last : Nat) : List CpInfo := es.foldr (fun e r => gap e.1 (e.2 :: r)) (gap last [])
def pool (es : List (Nat × CpInfo)) (last : Nat) : Array CpInfo := ⟨poolList es last⟩
def fileOf (pool : Array CpInfo) (this : Nat) (attrs : Array Attribute := #[]) (ms : Array MethodInfo := #[]) (fl : Nat := 33) (sup : Nat := 0) (ifs : Array Nat := #[]) (fds : Array FieldInfo := #[]) : ClassFile where
  minorVersion := 0
  majorVersion := 65
  constantPool := pool
  accessFlags := fl
  thisClass := this
  superClass := sup
  interfaces := ifs
  fields := fds
  methods := ms
  attributes := attrs
def plain (name : String) (sup : Option ClassId) : Class where
  name := name
  kind := .ordinary
  loader := none
  accessFlags := 33
  super := sup
  interfaces := #[]
  cf := none
  fields := #[]
  methods := #[]
  instanceTypes := #[]
  staticTypes := #[]
  resolved := #[]
  callSites := []
  init := .initialized
  statics := none
  mirror := none

def pool0 : Array CpInfo := pool [(5, u "<init>"), (0, u "()V"), (1, .class_ 10), (1, u "java/lang/Object")] 113

def k0c0 : Code := { maxStack := 0, maxLocals := 1, code := object_method_1_code, exceptionTable := #[], attributes := #[] }
def k0m0 : Method := { name := "<init>", desc := "()V", sig := { parameters := [], returnType := none }, accessFlags := 1, code := some k0c0 }
/-- java/lang/Object -/
def k0 : Class := { plain "java/lang/Object" none with
  accessFlags := 33
  interfaces := #[]
  cf := some (fileOf pool0 8 #[] #[{ accessFlags := 1, nameIndex := 5, descriptorIndex := 6, attributes := #[] }] 33 0 #[] #[])
  fields := #[]
  methods := #[k0m0]
  instanceTypes := #[]
  staticTypes := #[]
  resolved := Array.replicate 124 none
  statics := none }

def pool1 : Array CpInfo := pool [(2, .class_ 4), (1, u "java/lang/Object"), (0, u "<init>"), (0, u "()V"), (0, .methodref 8 9), (0, .class_ 10), (0, .nameAndType 11 12), (0, u "java/lang/Math"), (0, u "min"), (0, u "(II)I"), (0, .integer 65535), (0, .integer 65536), (0, .integer 2147483647), (0, .class_ 17), (0, u "com/example/cairn/cairn/RunContainer"), (0, .methodref 16 19), (0, .nameAndType 5 20), (0, u "([C[CIIZ)V"), (0, .methodref 22 23), (0, .class_ 24), (0, .nameAndType 25 26), (0, u "com/example/cairn/cairn/RunContainerValuesHashPinLaw"), (0, u "addRun"), (0, u "(III)I"), (0, .methodref 16 28), (0, .nameAndType 29 30), (0, u "valuesHash"), (0, u "()I"), (3, u "law"), (0, u "(IIII)Z")] 4

def k1m0 : Method := { name := "<init>", desc := "()V", sig := { parameters := [], returnType := none }, accessFlags := 1, code := none }
def k1c1 : Code := { maxStack := 3, maxLocals := 4, code := method_2_code, exceptionTable := #[], attributes := #[] }
def k1m1 : Method := { name := "addRun", desc := "(III)I", sig := { parameters := [.int, .int, .int], returnType := some .int }, accessFlags := 10, code := some k1c1 }
def k1c2 : Code := { maxStack := 7, maxLocals := 19, code := code, exceptionTable := #[], attributes := #[] }
def k1m2 : Method := { name := "law", desc := "(IIII)Z", sig := { parameters := [.int, .int, .int, .int], returnType := some .boolean }, accessFlags := 9, code := some k1c2 }
/-- com/example/cairn/cairn/RunContainerValuesHashPinLaw -/
def k1 : Class := { plain "com/example/cairn/cairn/RunContainerValuesHashPinLaw" (some 0) with
  accessFlags := 49
  interfaces := #[]
  cf := some (fileOf pool1 22 #[] #[{ accessFlags := 1, nameIndex := 5, descriptorIndex := 6, attributes := #[] }, { accessFlags := 10, nameIndex := 25, descriptorIndex := 26, attributes := #[] }, { accessFlags := 9, nameIndex := 34, descriptorIndex := 35, attributes := #[] }] 49 2 #[] #[])
  fields := #[]
  methods := #[k1m0, k1m1, k1m2]
  instanceTypes := #[]
  staticTypes := #[]
  resolved := Array.replicate 40 none
  statics := none }

def pool2 : Array CpInfo := pool [(1, .class_ 2), (0, u "java/lang/Math"), (1, .class_ 6), (1, u "java/lang/Object"), (0, u "<init>"), (0, u "()V"), (89, .class_ 100), (1, u "java/lang/Math$RandomNumberGeneratorHolder"), (71, u "negativeZeroFloatBits"), (0, u "J"), (2, u "negativeZeroDoubleBits"), (24, u "min"), (43, u "$assertionsDisabled"), (0, u "Z"), (88, u "(II)I"), (2, u "twoToTheDoubleScaleDown"), (0, u "D"), (4, u "twoToTheDoubleScaleUp"), (9, u "E"), (3, u "PI"), (2, u "TAU"), (2, u "DEGREES_TO_RADIANS"), (0, u "RADIANS_TO_DEGREES")] 94

def k2m0 : Method := { name := "<init>", desc := "()V", sig := { parameters := [], returnType := none }, accessFlags := 2, code := none }
def k2c1 : Code := { maxStack := 2, maxLocals := 2, code := jdk_29_method_69_code, exceptionTable := #[], attributes := #[] }
def k2m1 : Method := { name := "min", desc := "(II)I", sig := { parameters := [.int, .int], returnType := some .int }, accessFlags := 9, code := some k2c1 }
/-- java/lang/Math -/
def k2 : Class := { plain "java/lang/Math" (some 0) with
  accessFlags := 49
  interfaces := #[]
  cf := some (fileOf pool2 1 #[.nestMembers #[98]] #[{ accessFlags := 2, nameIndex := 7, descriptorIndex := 8, attributes := #[] }, { accessFlags := 9, nameIndex := 201, descriptorIndex := 335, attributes := #[] }] 49 4 #[] #[{ accessFlags := 25, nameIndex := 354, descriptorIndex := 339, attributes := #[] }, { accessFlags := 25, nameIndex := 358, descriptorIndex := 339, attributes := #[] }, { accessFlags := 25, nameIndex := 361, descriptorIndex := 339, attributes := #[] }, { accessFlags := 26, nameIndex := 364, descriptorIndex := 339, attributes := #[] }, { accessFlags := 26, nameIndex := 365, descriptorIndex := 339, attributes := #[] }, { accessFlags := 26, nameIndex := 172, descriptorIndex := 173, attributes := #[] }, { accessFlags := 26, nameIndex := 176, descriptorIndex := 173, attributes := #[] }, { accessFlags := 8, nameIndex := 344, descriptorIndex := 339, attributes := #[] }, { accessFlags := 8, nameIndex := 338, descriptorIndex := 339, attributes := #[] }, { accessFlags := 4120, nameIndex := 245, descriptorIndex := 246, attributes := #[] }])
  fields := #[{ name := "E", type := .double, accessFlags := 25, slot := 0, constantValue := 0 }, { name := "PI", type := .double, accessFlags := 25, slot := 1, constantValue := 0 }, { name := "TAU", type := .double, accessFlags := 25, slot := 2, constantValue := 0 }, { name := "DEGREES_TO_RADIANS", type := .double, accessFlags := 26, slot := 3, constantValue := 0 }, { name := "RADIANS_TO_DEGREES", type := .double, accessFlags := 26, slot := 4, constantValue := 0 }, { name := "negativeZeroFloatBits", type := .long, accessFlags := 26, slot := 5, constantValue := 0 }, { name := "negativeZeroDoubleBits", type := .long, accessFlags := 26, slot := 6, constantValue := 0 }, { name := "twoToTheDoubleScaleUp", type := .double, accessFlags := 8, slot := 7, constantValue := 0 }, { name := "twoToTheDoubleScaleDown", type := .double, accessFlags := 8, slot := 8, constantValue := 0 }, { name := "$assertionsDisabled", type := .boolean, accessFlags := 4120, slot := 9, constantValue := 0 }]
  methods := #[k2m0, k2m1]
  instanceTypes := #[]
  staticTypes := #[.double, .double, .double, .double, .double, .long, .long, .double, .double, .boolean]
  resolved := Array.replicate 460 none
  statics := none }

def pool3 : Array CpInfo := pool [(1, .class_ 2), (0, u "com/example/cairn/cairn/ChunkValues"), (0, .class_ 4), (0, u "java/lang/Object")] 4

/-- com/example/cairn/cairn/ChunkValues -/
def k3 : Class := { plain "com/example/cairn/cairn/ChunkValues" (some 0) with
  accessFlags := 1536
  interfaces := #[]
  cf := some (fileOf pool3 1 #[] #[] 1536 3 #[] #[])
  fields := #[]
  methods := #[]
  instanceTypes := #[]
  staticTypes := #[]
  resolved := Array.replicate 9 none
  statics := none }

def pool4 : Array CpInfo := pool [(1, .methodref 2 3), (0, .class_ 4), (0, .nameAndType 5 6), (0, u "java/lang/Object"), (0, u "<init>"), (0, u "()V"), (1, .class_ 10), (1, u "com/example/cairn/cairn/Container"), (21, u "shared"), (0, u "Z"), (7, .class_ 42), (0, u "com/example/cairn/cairn/ChunkValues")] 37

def k4c0 : Code := { maxStack := 1, maxLocals := 1, code := prog_27_method_1_code, exceptionTable := #[], attributes := #[] }
def k4m0 : Method := { name := "<init>", desc := "()V", sig := { parameters := [], returnType := none }, accessFlags := 0, code := some k4c0 }
/-- com/example/cairn/cairn/Container -/
def k4 : Class := { plain "com/example/cairn/cairn/Container" (some 0) with
  accessFlags := 1056
  interfaces := #[3]
  cf := some (fileOf pool4 8 #[] #[{ accessFlags := 0, nameIndex := 5, descriptorIndex := 6, attributes := #[] }] 1056 2 #[41] #[{ accessFlags := 2, nameIndex := 32, descriptorIndex := 33, attributes := #[] }])
  fields := #[{ name := "shared", type := .boolean, accessFlags := 2, slot := 0, constantValue := 0 }]
  methods := #[k4m0]
  instanceTypes := #[.boolean]
  staticTypes := #[]
  resolved := Array.replicate 80 none
  statics := none }

def pool5 : Array CpInfo := pool [(1, .class_ 2), (0, u "com/example/cairn/cairn/ChunkReads"), (0, .class_ 4), (0, u "java/lang/Object")] 9

/-- com/example/cairn/cairn/ChunkReads -/
def k5 : Class := { plain "com/example/cairn/cairn/ChunkReads" (some 0) with
  accessFlags := 1536
  interfaces := #[]
  cf := some (fileOf pool5 1 #[] #[] 1536 3 #[] #[])
  fields := #[]
  methods := #[]
  instanceTypes := #[]
  staticTypes := #[]
  resolved := Array.replicate 14 none
  statics := none }

def pool6 : Array CpInfo := pool [(2, .class_ 4), (1, u "com/example/cairn/cairn/RunValues"), (21, .class_ 27), (0, u "java/lang/Object"), (0, .class_ 29), (0, u "com/example/cairn/cairn/ChunkReads")] 19

/-- com/example/cairn/cairn/RunValues -/
def k6 : Class := { plain "com/example/cairn/cairn/RunValues" (some 0) with
  accessFlags := 1536
  interfaces := #[5]
  cf := some (fileOf pool6 2 #[] #[] 1536 26 #[28] #[])
  fields := #[]
  methods := #[]
  instanceTypes := #[]
  staticTypes := #[]
  resolved := Array.replicate 49 none
  statics := none }

def pool7 : Array CpInfo := pool [(2, .class_ 4), (1, u "com/example/cairn/cairn/RunContainer"), (0, u "<init>"), (0, u "([C[CIIZ)V"), (0, .methodref 8 9), (0, .class_ 10), (0, .nameAndType 5 11), (0, u "com/example/cairn/cairn/Container"), (0, u "()V"), (0, .fieldref 2 13), (0, .nameAndType 14 15), (0, u "starts"), (0, u "[C"), (0, .fieldref 2 17), (0, .nameAndType 18 15), (0, u "ends"), (0, .fieldref 2 20), (0, .nameAndType 21 22), (0, u "size"), (0, u "I"), (0, .fieldref 2 24), (0, .nameAndType 25 22), (0, u "cardinality"), (0, .fieldref 2 27), (0, .nameAndType 28 29), (0, u "mayTouch"), (0, u "Z"), (58, .class_ 90), (1, u "com/example/cairn/cairn/RunValues"), (28, u "()I"), (102, u "INITIAL_CAPACITY"), (30, u "valuesHash")] 9

def k7c0 : Code := { maxStack := 2, maxLocals := 6, code := prog_44_method_2_code, exceptionTable := #[], attributes := #[] }
def k7m0 : Method := { name := "<init>", desc := "([C[CIIZ)V", sig := { parameters := [(.array .char), (.array .char), .int, .int, .boolean], returnType := none }, accessFlags := 0, code := some k7c0 }
def k7c1 : Code := { maxStack := 2, maxLocals := 5, code := prog_44_method_29_code, exceptionTable := #[], attributes := #[] }
def k7m1 : Method := { name := "valuesHash", desc := "()I", sig := { parameters := [], returnType := some .int }, accessFlags := 0, code := some k7c1 }
/-- com/example/cairn/cairn/RunContainer -/
def k7 : Class := { plain "com/example/cairn/cairn/RunContainer" (some 4) with
  accessFlags := 48
  interfaces := #[6]
  cf := some (fileOf pool7 2 #[] #[{ accessFlags := 0, nameIndex := 5, descriptorIndex := 6, attributes := #[] }, { accessFlags := 0, nameIndex := 253, descriptorIndex := 119, attributes := #[] }] 48 8 #[88] #[{ accessFlags := 26, nameIndex := 222, descriptorIndex := 22, attributes := #[] }, { accessFlags := 2, nameIndex := 14, descriptorIndex := 15, attributes := #[] }, { accessFlags := 2, nameIndex := 18, descriptorIndex := 15, attributes := #[] }, { accessFlags := 2, nameIndex := 21, descriptorIndex := 22, attributes := #[] }, { accessFlags := 2, nameIndex := 25, descriptorIndex := 22, attributes := #[] }, { accessFlags := 18, nameIndex := 28, descriptorIndex := 29, attributes := #[] }])
  fields := #[{ name := "INITIAL_CAPACITY", type := .int, accessFlags := 26, slot := 0, constantValue := 0 }, { name := "starts", type := (.array .char), accessFlags := 2, slot := 1, constantValue := 0 }, { name := "ends", type := (.array .char), accessFlags := 2, slot := 2, constantValue := 0 }, { name := "size", type := .int, accessFlags := 2, slot := 3, constantValue := 0 }, { name := "cardinality", type := .int, accessFlags := 2, slot := 4, constantValue := 0 }, { name := "mayTouch", type := .boolean, accessFlags := 18, slot := 5, constantValue := 0 }]
  methods := #[k7m0, k7m1]
  instanceTypes := #[.boolean, (.array .char), (.array .char), .int, .int, .boolean]
  staticTypes := #[.int]
  resolved := Array.replicate 263 none
  statics := none }

def pool8 : Array CpInfo := pool [(1, u "java/lang/Cloneable"), (0, .class_ 1), (0, u "java/lang/Object"), (0, .class_ 3)] 3

/-- java/lang/Cloneable -/
def k8 : Class := { plain "java/lang/Cloneable" (some 0) with
  accessFlags := 1537
  interfaces := #[]
  cf := some (fileOf pool8 2 #[] #[] 1537 4 #[] #[])
  fields := #[]
  methods := #[]
  instanceTypes := #[]
  staticTypes := #[]
  resolved := Array.replicate 8 none
  statics := none }

def pool9 : Array CpInfo := pool [(1, u "java/io/Serializable"), (0, .class_ 1), (0, u "java/lang/Object"), (0, .class_ 3)] 3

/-- java/io/Serializable -/
def k9 : Class := { plain "java/io/Serializable" (some 0) with
  accessFlags := 1537
  interfaces := #[]
  cf := some (fileOf pool9 2 #[] #[] 1537 4 #[] #[])
  fields := #[]
  methods := #[]
  instanceTypes := #[]
  staticTypes := #[]
  resolved := Array.replicate 8 none
  statics := none }

/-- the primitive byte -/
def k10 : Class := { plain "byte" none with kind := .primitive 'B', accessFlags := 0x411 }
/-- [B -/
def k11 : Class := { plain "[B" (some 0) with kind := .array 10 .byte, interfaces := #[8, 9], accessFlags := 1041 }

/-- the primitive char -/
def k12 : Class := { plain "char" none with kind := .primitive 'C', accessFlags := 0x411 }
/-- [C -/
def k13 : Class := { plain "[C" (some 0) with kind := .array 12 .char, interfaces := #[8, 9], accessFlags := 1041 }

/-- the primitive int -/
def k14 : Class := { plain "int" none with kind := .primitive 'I', accessFlags := 0x411 }
/-- [I -/
def k15 : Class := { plain "[I" (some 0) with kind := .array 14 .int, interfaces := #[8, 9], accessFlags := 1041 }

def heap : Heap := #[]
def classes : Array Class := #[k0, k1, k2, k3, k4, k5, k6, k7, k8, k9, k10, k11, k12, k13, k14, k15]
def interned : List (Array UInt16 × Addr) := []
def slotsUsed : Nat := 0
def theMethod : MethodId := ⟨1, 2⟩
def args0 : Array Value := #[.int 5, .int 6, .int 7, .int 1]
def aboutOver (below : List Frame) : State where
  vm := { classes := classes, interned := interned.toArray }
  heap := heap
  slotsUsed := slotsUsed
  threads := #[{ frames := .invoking theMethod args0 :: below }]
def below0 : List Frame := [.native { method := ⟨0, 0⟩, args := #[] }]
def about1 : State := aboutOver below0
def p0 : Program := .bare "" "" ""
def e0 : Env := launch0.env 0 0 0
theorem w_frames : about1.frames = Frame.invoking theMethod args0 :: below0 := rfl
set_option maxRecDepth 65536 in
theorem w_args : argsFit about1.vm theMethod args0 = true := by decide +kernel
set_option maxRecDepth 65536 in
theorem w_heap : heapFits about1 = true := by decide +kernel
set_option maxRecDepth 65536 in
theorem w_runnable : about1.curStatus? = some .runnable := by decide +kernel
set_option maxRecDepth 65536 in
theorem w_alone : about1.alone = true := by decide +kernel
set_option maxRecDepth 65536 in
theorem w_named : about1.methodNamed? x = some theMethod := by decide +kernel
set_option maxRecDepth 65536 in
theorem w_hears : about1.hears theMethod below0 = true := by decide +kernel
set_option maxRecDepth 65536 in
theorem w_ripe : about1.ripe theMethod args0 below0 = true := by decide +kernel
theorem w_running : about1.status = .running := rfl
set_option maxRecDepth 65536 in
theorem w_room : about1.hasRoom e0.platform room_1 = true :=
  launch0.hasRoom_least _ room_1 (by decide +kernel) (by decide +kernel) (by decide +kernel) (by decide +kernel) (by decide +kernel) (by decide +kernel)
theorem allAtoms_all (ts : List Jvm.Cond) (a : Array Jvm.Value) (st : Jvm.State) : (allAtoms ts).before a st = ts.all (fun c => c.before a st) := by
  induction ts with
  | nil => rfl
  | cons c t ih =>
    show (Jvm.Cond.and c (allAtoms t)).before a st = _
    rw [Jvm.Cond.before_and, ih, List.all_cons]
def words1 : List Jvm.Cond := Jvm.Cond.code x code maxLocals ret :: tables_1
/-- a 'code' word, met by the world's own term for the bytes: nothing is compared byte by byte -/
theorem code_word {y : MethodName} {bytes : ByteArray} {mx : Nat} {rt : Option FieldType} {a : Array Value} {s : State} {m : MethodId} {meth : Method} {c : Code} (h1 : s.methodNamed? y = some m) (h2 : s.vm.method? m = some meth) (h3 : meth.code = some c) (h4 : c.code = bytes)
    (h5 : (c.maxLocals == mx && c.exceptionTable.isEmpty && decide (c.maxStack ≤ mostOperands) && decide (meth.sig.returnType = rt) && !meth.locks && decide (parseMethodDescriptor y.desc = some meth.sig)) = true) : (Jvm.Cond.code y bytes mx rt).before a s = true := by
  simp only [Bool.and_eq_true, beq_iff_eq, Bool.not_eq_true', decide_eq_true_eq] at h5
  obtain ⟨⟨⟨⟨⟨g1, g2⟩, g3⟩, g4⟩, g5⟩, g6⟩ := h5
  simp [Cond.before, Cond.holds, Cond.value, h1, h2, h3, h4, g1, g2, g3, g4, g5, g6]
def isCode : Jvm.Cond → Bool
  | .code _ _ _ _ => true
  | _ => false
theorem all_split {L : List Jvm.Cond} {P : Jvm.Cond → Bool} (h1 : L.all (fun c => isCode c || P c) = true) (h2 : ∀ c ∈ L.filter isCode, P c = true) : L.all P = true := by
  refine List.all_eq_true.mpr fun c hc => ?_
  have h := List.all_eq_true.mp h1 c hc
  rcases Bool.eq_false_or_eq_true (isCode c) with hi | hi
  · exact h2 c (List.mem_filter.mpr ⟨hc, hi⟩)
  · simpa [hi] using h
set_option maxRecDepth 65536 in
theorem w_c0 : (Jvm.Cond.code x code maxLocals ret).before args0 about1 = true := code_word (m := ⟨1, 2⟩) (meth := k1m2) (c := k1c2) (by decide +kernel) rfl rfl rfl (by decide +kernel)
set_option maxRecDepth 65536 in
theorem w_c1 : (Jvm.Cond.code ({ cls := "java/lang/Math", name := "min", desc := "(II)I" } : Jvm.MethodName) jdk_29_method_69_code (2 : Nat) (Option.some Jvm.ClassFile.FieldType.int)).before args0 about1 = true := code_word (m := ⟨2, 1⟩) (meth := k2m1) (c := k2c1) (by decide +kernel) rfl rfl rfl (by decide +kernel)
set_option maxRecDepth 65536 in
theorem w_c2 : (Jvm.Cond.code ({ cls := "com/example/cairn/cairn/RunContainer", name := "<init>", desc := "([C[CIIZ)V" } : Jvm.MethodName) prog_44_method_2_code (6 : Nat) (Option.none : Option Jvm.ClassFile.FieldType)).before args0 about1 = true := code_word (m := ⟨7, 0⟩) (meth := k7m0) (c := k7c0) (by decide +kernel) rfl rfl rfl (by decide +kernel)
set_option maxRecDepth 65536 in
theorem w_c3 : (Jvm.Cond.code ({ cls := "com/example/cairn/cairn/Container", name := "<init>", desc := "()V" } : Jvm.MethodName) prog_27_method_1_code (1 : Nat) (Option.none : Option Jvm.ClassFile.FieldType)).before args0 about1 = true := code_word (m := ⟨4, 0⟩) (meth := k4m0) (c := k4c0) (by decide +kernel) rfl rfl rfl (by decide +kernel)
set_option maxRecDepth 65536 in
theorem w_c4 : (Jvm.Cond.code ({ cls := "java/lang/Object", name := "<init>", desc := "()V" } : Jvm.MethodName) object_method_1_code (1 : Nat) (Option.none : Option Jvm.ClassFile.FieldType)).before args0 about1 = true := code_word (m := ⟨0, 0⟩) (meth := k0m0) (c := k0c0) (by decide +kernel) rfl rfl rfl (by decide +kernel)
set_option maxRecDepth 65536 in
theorem w_c5 : (Jvm.Cond.code ({ cls := "com/example/cairn/cairn/RunContainerValuesHashPinLaw", name := "addRun", desc := "(III)I" } : Jvm.MethodName) method_2_code (4 : Nat) (Option.some Jvm.ClassFile.FieldType.int)).before args0 about1 = true := code_word (m := ⟨1, 1⟩) (meth := k1m1) (c := k1c1) (by decide +kernel) rfl rfl rfl (by decide +kernel)
set_option maxRecDepth 65536 in
theorem w_c6 : (Jvm.Cond.code ({ cls := "com/example/cairn/cairn/RunContainer", name := "valuesHash", desc := "()I" } : Jvm.MethodName) prog_44_method_29_code (5 : Nat) (Option.some Jvm.ClassFile.FieldType.int)).before args0 about1 = true := code_word (m := ⟨7, 1⟩) (meth := k7m1) (c := k7c1) (by decide +kernel) rfl rfl rfl (by decide +kernel)
def codes1 : List Jvm.Cond := [Jvm.Cond.code x code maxLocals ret, Jvm.Cond.code ({ cls := "java/lang/Math", name := "min", desc := "(II)I" } : Jvm.MethodName) jdk_29_method_69_code (2 : Nat) (Option.some Jvm.ClassFile.FieldType.int), Jvm.Cond.code ({ cls := "com/example/cairn/cairn/RunContainer", name := "<init>", desc := "([C[CIIZ)V" } : Jvm.MethodName) prog_44_method_2_code (6 : Nat) (Option.none : Option Jvm.ClassFile.FieldType), Jvm.Cond.code ({ cls := "com/example/cairn/cairn/Container", name := "<init>", desc := "()V" } : Jvm.MethodName) prog_27_method_1_code (1 : Nat) (Option.none : Option Jvm.ClassFile.FieldType), Jvm.Cond.code ({ cls := "java/lang/Object", name := "<init>", desc := "()V" } : Jvm.MethodName) object_method_1_code (1 : Nat) (Option.none : Option Jvm.ClassFile.FieldType), Jvm.Cond.code ({ cls := "com/example/cairn/cairn/RunContainerValuesHashPinLaw", name := "addRun", desc := "(III)I" } : Jvm.MethodName) method_2_code (4 : Nat) (Option.some Jvm.ClassFile.FieldType.int), Jvm.Cond.code ({ cls := "com/example/cairn/cairn/RunContainer", name := "valuesHash", desc := "()I" } : Jvm.MethodName) prog_44_method_29_code (5 : Nat) (Option.some Jvm.ClassFile.FieldType.int)]
set_option maxRecDepth 65536 in
theorem codes_eq : words1.filter isCode = codes1 := rfl
theorem w_codes : ∀ c ∈ words1.filter isCode, c.before args0 about1 = true := by
  rw [codes_eq]
  intro c hc
  simp only [codes1, List.mem_cons, List.not_mem_nil, or_false] at hc
  rcases hc with rfl | rfl | rfl | rfl | rfl | rfl | rfl
  · exact w_c0
  · exact w_c1
  · exact w_c2
  · exact w_c3
  · exact w_c4
  · exact w_c5
  · exact w_c6
set_option maxRecDepth 65536 in
theorem w_t1 : (words1.take 24).all (fun c => isCode c || c.before args0 about1) = true := by decide +kernel
set_option maxRecDepth 65536 in
theorem w_t2 : (words1.drop 24).all (fun c => isCode c || c.before args0 about1) = true := by decide +kernel
theorem w_tables : (allAtoms (Jvm.Cond.code x code maxLocals ret :: tables_1)).before args0 about1 = true := by
  rw [allAtoms_all]
  show words1.all (fun c => c.before args0 about1) = true
  refine all_split ?_ w_codes
  rw [← List.take_append_drop 24 words1, List.all_append, w_t1, w_t2]
  rfl
set_option maxRecDepth 65536 in
theorem w_case : (Jvm.Cond.and given_1 narrow_1).before args0 about1 = true := by decide +kernel
theorem w_applies : (headSpec (Jvm.Cond.code x code maxLocals ret :: tables_1) room_1).applies x e0.platform about1 = true :=
  (Spec.applies_iff w_frames).mpr ⟨w_running, w_runnable, w_alone, w_named, w_hears, w_ripe, w_room, w_tables⟩
theorem atStart : AtStart classFile x code maxLocals ret World_1 tables_1 room_1 Calls_1 rest_1 Pre_1 launch0 p0 e0 about1 theMethod args0 below0 :=
  ⟨lists_1, trivial, launch0.admits_env _ _ _, launch0.least_env, fairChoices_fair.cas, fairChoices_fair.clock, w_frames, w_args, w_heap, w_applies, trivial, trivial, w_case⟩
end start1
theorem witness_1 : WitnessClaimed_1 := ⟨start1.p0, start1.e0, start1.about1, start1.theMethod, start1.args0, start1.below0, start1.atStart⟩
end Jvm.Pilot.@@N@@
