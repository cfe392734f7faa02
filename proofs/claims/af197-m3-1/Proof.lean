import JvmDerived
import JvmDerived.Pilot.@@N@@Statement
import JvmDerived.Pilot.@@N@@Code
set_option linter.unusedVariables false
set_option linter.unusedSimpArgs false
namespace Jvm.Pilot.@@N@@
open Jvm Jvm.ClassFile Sem Op Lib Jvm.Free Jvm.Stand Jvm.LawKit Jvm.RoadKit Bundle Jvm.Pilot.@@N@@.Jvm.D
/-! The end of a walk, as a goal: from U the run ends, and G holds of the end. -/
def WP (p : Program) (e : Env) (below : List Frame) (G : State → Outcome → Prop) (U : State) : Prop :=
  ∃ s₂ o, Steps p.tables e below U s₂ ∧ s₂.status = .running ∧ Ended s₂ below o ∧ G s₂ o
def GG (Q : Option Value → Heap → List Loc → Prop) (s : State) (k n : Nat) : State → Outcome → Prop :=
  fun t o => ∃ v L, o = .returned v ∧ Q v t.heap L ∧ FrameEnd s o t L k n
theorem own_go {p : Program} {e : Env} {below : List Frame} {G : State → Outcome → Prop} {U V : State} (h : ∀ t, Steps p.tables e below V t → Steps p.tables e below U t) (w : WP p e below G V) : WP p e below G U := by
  obtain ⟨t, o, h1, h2⟩ := w
  exact ⟨t, o, h _ h1, h2⟩
/-- what a body that writes nothing leaves -/
def PQ (h0 : Heap) (n0 : Nat) (w : Value) (v : Option Value) (h : Heap) (L : List Loc) : Prop := v = some w ∧ Fr n0 L ∧ h = h0
/-- what the law leaves -/
def Q0 (n0 : Nat) (v : Option Value) (h : Heap) (L : List Loc) : Prop := v = some (.int 1) ∧ Fr n0 L
section Own
variable {p : Program} {l : Launch} {e : Env} {R : Room} {s : State} {m : MethodId} {args : Array Value} {below : List Frame} {meth : Method} {c : Code} {T : State} {locs : List Loc} {cells slots : Nat}
theorem own_mono (X : Stand p l e R s m args below meth c T locs cells slots) {k n : Nat} (h1 : cells ≤ k) (h2 : slots ≤ n) : Stand p l e R s m args below meth c T locs k n :=
  ⟨X.admits, X.cas, X.clock, X.frames, X.room, X.hears, X.method, X.code, X.here, X.tail, X.warmed, X.limits, X.bytes, X.same.mono h1 h2⟩
theorem own_retI (X : Stand p l e R s m args below meth c T locs cells slots) (hx : p.tables.exec = Jvm.exec) (hnl : meth.locks = false) (hret : meth.sig.returnType = some .int) {pc : Nat} {Ls : Array Slot} {z : Int32} {rest : List Value} (hd : decode c.code pc = .ok (.ireturn, 1)) {Q : Option Value → Heap → List Loc → Prop} {k n : Nat}
    (hq : Q (some (.int z)) T.heap locs) (hc : cells ≤ k) (hs : slots ≤ n) : WP p e below (GG Q s k n) (T.setTop (mkF m pc Ls (.int z :: rest))) := by
  obtain ⟨fs, hr, hrun, hended, hW, hsame⟩ := X.leave (v := some (.int z)) (fun h => by rw [hret] at h; cases h) hnl
  exact ⟨_, _, retOut X hx hret rfl (Or.inl ⟨rfl, Or.inl rfl, z, rfl⟩) hd hr, hrun, hended, _, _, rfl, hq, ⟨_, rfl⟩, hW, hsame.mono hc hs⟩
theorem own_retN (X : Stand p l e R s m args below meth c T locs cells slots) (hx : p.tables.exec = Jvm.exec) (hnl : meth.locks = false) {t : FieldType} (hret : meth.sig.returnType = some t) (ht : t = .boolean ∨ t = .byte ∨ t = .char ∨ t = .short) {pc : Nat} {Ls : Array Slot} {z : Int32} {rest : List Value} (hd : decode c.code pc = .ok (.ireturn, 1)) {Q : Option Value → Heap → List Loc → Prop} {k n : Nat}
    (hq : Q (some (.int (nar t z))) T.heap locs) (hc : cells ≤ k) (hs : slots ≤ n) : WP p e below (GG Q s k n) (T.setTop (mkF m pc Ls (.int z :: rest))) := by
  obtain ⟨fs, hr, hrun, hended, hW, hsame⟩ := X.leave (v := some (.int (nar t z))) (fun h => by rw [hret] at h; cases h) hnl
  exact ⟨_, _, retN X hx hret ht hd hr, hrun, hended, _, _, rfl, hq, ⟨_, rfl⟩, hW, hsame.mono hc hs⟩
theorem own_retZ (X : Stand p l e R s m args below meth c T locs cells slots) (hx : p.tables.exec = Jvm.exec) (hnl : meth.locks = false) (hret : meth.sig.returnType = some .boolean) {pc : Nat} {Ls : Array Slot} {z : Int32} {rest : List Value} (hd : decode c.code pc = .ok (.ireturn, 1)) (hz : z = 0 ∨ z = 1) {Q : Option Value → Heap → List Loc → Prop} {k n : Nat}
    (hq : Q (some (.int z)) T.heap locs) (hc : cells ≤ k) (hs : slots ≤ n) : WP p e below (GG Q s k n) (T.setTop (mkF m pc Ls (.int z :: rest))) := by
  have hb : nar .boolean z = z := by rcases hz with rfl | rfl <;> rfl
  exact own_retN X hx hnl hret (Or.inl rfl) hd (by rw [hb]; exact hq) hc hs
theorem own_retC (X : Stand p l e R s m args below meth c T locs cells slots) (hx : p.tables.exec = Jvm.exec) (hnl : meth.locks = false) (hret : meth.sig.returnType = some .char) {pc : Nat} {Ls : Array Slot} {z : Int32} {rest : List Value} (hd : decode c.code pc = .ok (.ireturn, 1)) {Q : Option Value → Heap → List Loc → Prop} {k n : Nat}
    (hq : Q (some (.int z.toUInt32.toUInt16.toUInt32.toInt32)) T.heap locs) (hc : cells ≤ k) (hs : slots ≤ n) : WP p e below (GG Q s k n) (T.setTop (mkF m pc Ls (.int z :: rest))) :=
  own_retN X hx hnl hret (Or.inr (Or.inr (Or.inl rfl))) hd hq hc hs
theorem own_retB (X : Stand p l e R s m args below meth c T locs cells slots) (hx : p.tables.exec = Jvm.exec) (hnl : meth.locks = false) (hret : meth.sig.returnType = some .byte) {pc : Nat} {Ls : Array Slot} {z : Int32} {rest : List Value} (hd : decode c.code pc = .ok (.ireturn, 1)) {Q : Option Value → Heap → List Loc → Prop} {k n : Nat}
    (hq : Q (some (.int z.toInt8.toInt32)) T.heap locs) (hc : cells ≤ k) (hs : slots ≤ n) : WP p e below (GG Q s k n) (T.setTop (mkF m pc Ls (.int z :: rest))) :=
  own_retN X hx hnl hret (Or.inr (Or.inl rfl)) hd hq hc hs
theorem own_retJ (X : Stand p l e R s m args below meth c T locs cells slots) (hx : p.tables.exec = Jvm.exec) (hnl : meth.locks = false) (hret : meth.sig.returnType = some .long) {pc : Nat} {Ls : Array Slot} {z : Int64} {rest : List Value} (hd : decode c.code pc = .ok (.lreturn, 1)) {Q : Option Value → Heap → List Loc → Prop} {k n : Nat}
    (hq : Q (some (.long z)) T.heap locs) (hc : cells ≤ k) (hs : slots ≤ n) : WP p e below (GG Q s k n) (T.setTop (mkF m pc Ls (.long z :: rest))) := by
  obtain ⟨fs, hr, hrun, hended, hW, hsame⟩ := X.leave (v := some (.long z)) (fun h => by rw [hret] at h; cases h) hnl
  exact ⟨_, _, retOut X hx hret rfl (Or.inr (Or.inl ⟨rfl, rfl, z, rfl⟩)) hd hr, hrun, hended, _, _, rfl, hq, ⟨_, rfl⟩, hW, hsame.mono hc hs⟩
theorem own_retA (X : Stand p l e R s m args below meth c T locs cells slots) (hx : p.tables.exec = Jvm.exec) (hnl : meth.locks = false) {t : FieldType} (hret : meth.sig.returnType = some t) (ht : t.isReference = true) {pc : Nat} {Ls : Array Slot} {w : Value} (hw : w.isRef = true) {rest : List Value} (hd : decode c.code pc = .ok (.areturn, 1)) {Q : Option Value → Heap → List Loc → Prop} {k n : Nat}
    (hq : Q (some w) T.heap locs) (hc : cells ≤ k) (hs : slots ≤ n) : WP p e below (GG Q s k n) (T.setTop (mkF m pc Ls (w :: rest))) := by
  obtain ⟨fs, hr, hrun, hended, hW, hsame⟩ := X.leave (v := some w) (fun h => by rw [hret] at h; cases h) hnl
  have hn : narrow t w = w := by cases t <;> first | rfl | (simp [FieldType.isReference] at ht)
  exact ⟨_, _, retOut X hx hret hn (Or.inr (Or.inr (Or.inr (Or.inr ⟨rfl, ht, hw⟩)))) hd hr, hrun, hended, _, _, rfl, hq, ⟨_, rfl⟩, hW, hsame.mono hc hs⟩
theorem own_ret0 (X : Stand p l e R s m args below meth c T locs cells slots) (hx : p.tables.exec = Jvm.exec) (hnl : meth.locks = false) (hret : meth.sig.returnType = none) {pc : Nat} {Ls : Array Slot} (hd : decode c.code pc = .ok (.return_, 1)) {Q : Option Value → Heap → List Loc → Prop} {k n : Nat}
    (hq : Q none T.heap locs) (hc : cells ≤ k) (hs : slots ≤ n) : WP p e below (GG Q s k n) (T.setTop (mkF m pc Ls [])) := by
  obtain ⟨fs, hr, hrun, hended, hW, hsame⟩ := X.leave (v := none) (fun _ => rfl) hnl
  exact ⟨_, _, X.returnOut hx hret hd hr, hrun, hended, _, _, rfl, hq, ⟨_, rfl⟩, hW, hsame.mono hc hs⟩
end Own

def AC (Z : State) (h : Heap) (a t : Addr) (k : ClassId) (u : Addr) (ku : ClassId) (n c0 c1 c2 c3 : Int32) : Prop :=
  Exa Z h a "com/example/cairn/cairn/ArrayContainer" ∧ Fld Z h a "com/example/cairn/cairn/ArrayContainer" "values" "[C" (.ref t) ∧ Fld Z h a "com/example/cairn/cairn/ArrayContainer" "cardinality" "C" (.int n) ∧ Fld Z h a "com/example/cairn/cairn/ArrayContainer" "occupiedWords" "[J" (.ref u) ∧ Fld Z h a "com/example/cairn/cairn/Container" "shared" "Z" (.int (0 : Int32)) ∧
  Arv Z h t k .char (4 : Int32) [.int c0, .int c1, .int c2, .int c3] (.int (0 : Int32)) ∧ Arv Z h u ku .long (0 : Int32) [] (.long (0 : Int64)) ∧ a ≠ t ∧ u ≠ a ∧ u ≠ t
theorem own_priv {s : State} {args : Array Value} {y z z' : MethodName} {C : String} (hsel : (Cond.selects C z z').before args s = true) (hz : z'.cls = y.cls) (hpriv : s.PrivateAt y) (hinst : (Cond.instanceMethod y).before args s = true) (hy : y.cls ≠ "java/lang/invoke/MethodHandle" ∧ y.cls ≠ "java/lang/invoke/VarHandle") : (Cond.selects y.cls y y).before args s = true := by
  obtain ⟨c2, r2, m2, q1, q2, q3, q4, kP, hkP, hkPi⟩ := Cond.selects_spec hsel
  exact selects_self_of_private (by rw [← hz]; exact findClass_of_methodNamed q3) hkP hkPi hpriv hinst hy
theorem own_z (w p : Int32) (h : w = p) : ((1 : Int32) &&& ((w - p) >>> ((31 : Int32) &&& 31))) = (0 : Int32) := by
  subst h
  rw [Int32.sub_self]; decide
def f1 (p1 : Int32) : Int32 := (if (p1 &&& (1 : Int32)) = (0 : Int32) then (((p1.toUInt32 >>> ((1 : Int32) &&& 31).toUInt32).toInt32) &&& (3 : Int32)) else (((p1.toUInt32 >>> ((1 : Int32) &&& 31).toUInt32).toInt32) &&& (4095 : Int32)))
theorem d1_0 : decode method_3_code 0 = .ok (.iload_n 0, 1) := by decide +kernel
theorem d1_1 : decode method_3_code 1 = .ok (.iconst 1, 1) := by decide +kernel
theorem d1_2 : decode method_3_code 2 = .ok (.iand, 1) := by decide +kernel
theorem d1_3 : decode method_3_code 3 = .ok (.ifCond .ne 11, 3) := by decide +kernel
theorem d1_6 : decode method_3_code 6 = .ok (.iload_n 0, 1) := by decide +kernel
theorem d1_7 : decode method_3_code 7 = .ok (.iconst 1, 1) := by decide +kernel
theorem d1_8 : decode method_3_code 8 = .ok (.iushr, 1) := by decide +kernel
theorem d1_9 : decode method_3_code 9 = .ok (.iconst 3, 1) := by decide +kernel
theorem d1_10 : decode method_3_code 10 = .ok (.iand, 1) := by decide +kernel
theorem d1_11 : decode method_3_code 11 = .ok (.goto 10, 3) := by decide +kernel
theorem d1_14 : decode method_3_code 14 = .ok (.iload_n 0, 1) := by decide +kernel
theorem d1_15 : decode method_3_code 15 = .ok (.iconst 1, 1) := by decide +kernel
theorem d1_16 : decode method_3_code 16 = .ok (.iushr, 1) := by decide +kernel
theorem d1_17 : decode method_3_code 17 = .ok (.sipush 4095, 3) := by decide +kernel
theorem d1_20 : decode method_3_code 20 = .ok (.iand, 1) := by decide +kernel
theorem d1_21 : decode method_3_code 21 = .ok (.ireturn, 1) := by decide +kernel
theorem pn_0 : plainName "com/example/cairn/cairn/ArrayContainerRunCountPinLaw" = true := by first | (simp [plainName, overriddenIn]; done) | decide +kernel
theorem ef_rm1 (m : MethodId) (x0 : Int32) : entryFrame m #[(.int x0)] 1 = mkF m 0 #[.val (.int x0)] [] := by first | (simp [entryFrame, mkF, argsToLocals, Value.category]; done) | rfl
set_option maxRecDepth 65536 in
set_option maxHeartbeats 40000000 in
theorem rm1 (l : Launch) (Z : State) (a0 : Array Value) (hw : ∀ d ∈ tables_1, d.before a0 Z = true) (ws : List Jvm.Cond) (p1 : Int32) (h0 : Heap) (n0 : Nat) :
    MetFree l (⟨"com/example/cairn/cairn/ArrayContainerRunCountPinLaw", "gap", "(I)I"⟩ : MethodName) (head1 (Jvm.Cond.code (⟨"com/example/cairn/cairn/ArrayContainerRunCountPinLaw", "gap", "(I)I"⟩ : MethodName) method_3_code 1 (some .int) :: ws) ({ frames := 0, cells := 0, slots := 0, locals := 0 } : Room)) (fun a U => a = #[(.int p1)] ∧ Z.Warmed39 U.vm ∧ U.heap = h0) (fun _ _ _ _ _ => True) (fun _ U o U' => ∃ v L, o = .returned v ∧ (PQ h0 n0 (.int (f1 p1))) v U'.heap L ∧ FrameEnd U o U' L ({ frames := 0, cells := 0, slots := 0, locals := 0 } : Room).cells ({ frames := 0, cells := 0, slots := 0, locals := 0 } : Room).slots) := by
  refine MetFree.of_bodySF (plainFor_of_name pn_0) hisR ?_
  intro p e s m args below meth c s₁ Bd hml0 hP hK
  obtain ⟨rfl, hZ, hh⟩ := hP
  have hx := Bd.exec
  have hby := Bd.bytes
  have hml : c.maxLocals = 1 := hml0
  have hown : s.vm.findClass "com/example/cairn/cairn/ArrayContainerRunCountPinLaw" = some m.cls := findClass_of_methodNamed Bd.named
  have hnm := (name_of_methodNamed Bd.named Bd.method).1
  have X0 : Stand p l e ({ frames := 0, cells := 0, slots := 0, locals := 0 } : Room) s m #[(.int p1)] below meth c s₁ [] 0 0 := Stand.of_body Bd
  have e0 : s₁.heap = h0 := by rw [← hh, Bd.state]; rfl
  have N0 := Fr.nil n0
  show WP p e below (GG (PQ h0 n0 (.int (f1 p1))) s ({ frames := 0, cells := 0, slots := 0, locals := 0 } : Room).cells ({ frames := 0, cells := 0, slots := 0, locals := 0 } : Room).slots) (s₁.setTop (entryFrame m #[(.int p1)] 1))
  rw [ef_rm1 m p1]
  show WP p e below _ (s₁.setTop (mkF m 0 #[.val (.int p1)] []))
  refine own_go (fun t_ k => XS.iloadN X0.here hx rfl (hb hby d1_0) rfl k) ?_
  show WP p e below _ (s₁.setTop (mkF m 1 #[.val (.int p1)] [(.int p1)]))
  refine own_go (fun t_ k => XS.iconst X0.here hx rfl (hb hby d1_1) k) ?_
  show WP p e below _ (s₁.setTop (mkF m 2 #[.val (.int p1)] [(.int (1 : Int32)), (.int p1)]))
  refine own_go (fun t_ k => XS.iand X0.here hx rfl (hb hby d1_2) rfl k) ?_
  show WP p e below _ (s₁.setTop (mkF m 3 #[.val (.int p1)] [(.int (p1 &&& (1 : Int32)))]))
  by_cases hc3_1 : (p1 &&& (1 : Int32)) = (0 : Int32)
  · refine own_go (fun t_ k => XS.ifNo X0.here hx rfl (hb hby d1_3) rfl ((if0 _ _).trans (teq hc3_1).2) k) ?_
    show WP p e below _ (s₁.setTop (mkF m 6 #[.val (.int p1)] []))
    refine own_go (fun t_ k => XS.iloadN X0.here hx rfl (hb hby d1_6) rfl k) ?_
    show WP p e below _ (s₁.setTop (mkF m 7 #[.val (.int p1)] [(.int p1)]))
    refine own_go (fun t_ k => XS.iconst X0.here hx rfl (hb hby d1_7) k) ?_
    show WP p e below _ (s₁.setTop (mkF m 8 #[.val (.int p1)] [(.int (1 : Int32)), (.int p1)]))
    refine own_go (fun t_ k => XS.iushr X0.here hx rfl (hb hby d1_8) rfl k) ?_
    show WP p e below _ (s₁.setTop (mkF m 9 #[.val (.int p1)] [(.int ((p1.toUInt32 >>> ((1 : Int32) &&& 31).toUInt32).toInt32))]))
    refine own_go (fun t_ k => XS.iconst X0.here hx rfl (hb hby d1_9) k) ?_
    show WP p e below _ (s₁.setTop (mkF m 10 #[.val (.int p1)] [(.int (3 : Int32)), (.int ((p1.toUInt32 >>> ((1 : Int32) &&& 31).toUInt32).toInt32))]))
    refine own_go (fun t_ k => XS.iand X0.here hx rfl (hb hby d1_10) rfl k) ?_
    show WP p e below _ (s₁.setTop (mkF m 11 #[.val (.int p1)] [(.int (((p1.toUInt32 >>> ((1 : Int32) &&& 31).toUInt32).toInt32) &&& (3 : Int32)))]))
    refine own_go (fun t_ k => XS.goto X0.here hx rfl (pc0 := 11) (pc' := 21) rfl (hb hby d1_11) (by decide) (by decide) k) ?_
    show WP p e below _ (s₁.setTop (mkF m 21 #[.val (.int p1)] [(.int (((p1.toUInt32 >>> ((1 : Int32) &&& 31).toUInt32).toInt32) &&& (3 : Int32)))]))
    exact own_retI X0 hx Bd.notSynchronized Bd.returns (hb hby d1_21) (show PQ h0 n0 (.int (f1 p1)) _ _ _ from ⟨by rw [f1, if_pos hc3_1], N0, e0⟩) (by decide) (by decide)
  · refine own_go (fun t_ k => XS.ifYes X0.here hx rfl (pc0 := 3) (pc' := 14) rfl (hb hby d1_3) rfl ((if0 _ _).trans (feq hc3_1).2) (by decide) (by decide) k) ?_
    show WP p e below _ (s₁.setTop (mkF m 14 #[.val (.int p1)] []))
    refine own_go (fun t_ k => XS.iloadN X0.here hx rfl (hb hby d1_14) rfl k) ?_
    show WP p e below _ (s₁.setTop (mkF m 15 #[.val (.int p1)] [(.int p1)]))
    refine own_go (fun t_ k => XS.iconst X0.here hx rfl (hb hby d1_15) k) ?_
    show WP p e below _ (s₁.setTop (mkF m 16 #[.val (.int p1)] [(.int (1 : Int32)), (.int p1)]))
    refine own_go (fun t_ k => XS.iushr X0.here hx rfl (hb hby d1_16) rfl k) ?_
    show WP p e below _ (s₁.setTop (mkF m 17 #[.val (.int p1)] [(.int ((p1.toUInt32 >>> ((1 : Int32) &&& 31).toUInt32).toInt32))]))
    refine own_go (fun t_ k => XS.sipush X0.here hx rfl (hb hby d1_17) k) ?_
    show WP p e below _ (s₁.setTop (mkF m 20 #[.val (.int p1)] [(.int (4095 : Int32)), (.int ((p1.toUInt32 >>> ((1 : Int32) &&& 31).toUInt32).toInt32))]))
    refine own_go (fun t_ k => XS.iand X0.here hx rfl (hb hby d1_20) rfl k) ?_
    show WP p e below _ (s₁.setTop (mkF m 21 #[.val (.int p1)] [(.int (((p1.toUInt32 >>> ((1 : Int32) &&& 31).toUInt32).toInt32) &&& (4095 : Int32)))]))
    exact own_retI X0 hx Bd.notSynchronized Bd.returns (hb hby d1_21) (show PQ h0 n0 (.int (f1 p1)) _ _ _ from ⟨by rw [f1, if_neg hc3_1], N0, e0⟩) (by decide) (by decide)
def Q_rm3 (Z : State) (a1 : Addr) (h0 : Heap) (n0 : Nat) (v : Option Value) (h : Heap) (L : List Loc) : Prop := v = none ∧ Fr n0 L ∧ h = h0
theorem d3_0 : decode prog_28_method_1_code 0 = .ok (.aload_n 0, 1) := by decide +kernel
theorem d3_1 : decode prog_28_method_1_code 1 = .ok (.invokespecial 1, 3) := by decide +kernel
theorem d3_4 : decode prog_28_method_1_code 4 = .ok (.return_, 1) := by decide +kernel
theorem pn_1 : plainName "com/example/cairn/cairn/Container" = true := by first | (simp [plainName, overriddenIn]; done) | decide +kernel
theorem ef_rm3 (m : MethodId) (x0 : Addr) : entryFrame m #[(.ref x0)] 1 = mkF m 0 #[.val (.ref x0)] [] := by first | (simp [entryFrame, mkF, argsToLocals, Value.category]; done) | rfl
set_option maxRecDepth 65536 in
set_option maxHeartbeats 40000000 in
theorem rm3 (l : Launch) (Z : State) (a0 : Array Value) (hw : ∀ d ∈ tables_1, d.before a0 Z = true) (ws : List Jvm.Cond) (a1 : Addr) (h0 : Heap) (n0 : Nat) :
    MetFree l (⟨"com/example/cairn/cairn/Container", "<init>", "()V"⟩ : MethodName) (head1 (Jvm.Cond.code (⟨"com/example/cairn/cairn/Container", "<init>", "()V"⟩ : MethodName) prog_28_method_1_code 1 none :: ws) ({ frames := 1, cells := 0, slots := 0, locals := 12 } : Room)) (fun a U => a = #[(.ref a1)] ∧ Z.Warmed39 U.vm ∧ U.heap = h0) (fun _ _ _ _ _ => True) (fun _ U o U' => ∃ v L, o = .returned v ∧ (Q_rm3 Z a1 h0 n0) v U'.heap L ∧ FrameEnd U o U' L ({ frames := 1, cells := 0, slots := 0, locals := 12 } : Room).cells ({ frames := 1, cells := 0, slots := 0, locals := 12 } : Room).slots) := by
  refine MetFree.of_bodySF (plainFor_of_name pn_1) hisR ?_
  intro p e s m args below meth c s₁ Bd hml0 hP hK
  obtain ⟨rfl, hZ, hh⟩ := hP
  have hx := Bd.exec
  have hby := Bd.bytes
  have hml : c.maxLocals = 1 := hml0
  have hown : s.vm.findClass "com/example/cairn/cairn/Container" = some m.cls := findClass_of_methodNamed Bd.named
  have hnm := (name_of_methodNamed Bd.named Bd.method).1
  have X0 : Stand p l e ({ frames := 1, cells := 0, slots := 0, locals := 12 } : Room) s m #[(.ref a1)] below meth c s₁ [] 0 0 := Stand.of_body Bd
  have e0 : s₁.heap = h0 := by rw [← hh, Bd.state]; rfl
  have N0 := Fr.nil n0
  show WP p e below (GG (Q_rm3 Z a1 h0 n0) s ({ frames := 1, cells := 0, slots := 0, locals := 12 } : Room).cells ({ frames := 1, cells := 0, slots := 0, locals := 12 } : Room).slots) (s₁.setTop (entryFrame m #[(.ref a1)] 1))
  rw [ef_rm3 m a1]
  show WP p e below _ (s₁.setTop (mkF m 0 #[.val (.ref a1)] []))
  refine own_go (fun t_ k => XS.aloadN X0.here hx rfl (hb hby d3_0) rfl rfl k) ?_
  show WP p e below _ (s₁.setTop (mkF m 1 #[.val (.ref a1)] [(.ref a1)]))
  obtain ⟨T1, X1, e1, st1⟩ := initO X0 hx hZ hown (hw _ (List.mem_of_getElem? (i := 17) rfl)) (hw _ (List.mem_of_getElem? (i := 18) rfl)) (hw _ (List.mem_of_getElem? (i := 19) rfl)) e0 (g := (mkF m 1 #[.val (.ref a1)] [(.ref a1)])) rfl (by rw [hml]; rfl) rfl (hb hby d3_1) (by decide) (W := 0) (by show 2 * 0 + _ ≤ _; exact Nat.le_of_eq rfl) (by decide)
  refine own_go st1 ?_
  show WP p e below _ (T1.setTop (mkF m 4 #[.val (.ref a1)] []))
  exact own_ret0 X1 hx Bd.notSynchronized Bd.returns (hb hby d3_4) (⟨rfl, N0, e1⟩) (by decide) (by decide)
def Q_rm2 (Z : State) (a1 : Addr) (p2 : Int32) (u : Addr) (ku : ClassId) (h0 : Heap) (n0 : Nat) (v : Option Value) (h : Heap) (L : List Loc) : Prop := v = none ∧ Fr n0 L ∧ Keep h0 h [a1] ∧ ∃ t k, n0 ≤ t ∧ h0.size ≤ t ∧ AC Z h a1 t k u ku (1 : Int32) (p2.toUInt32.toUInt16.toUInt32.toInt32) (0 : Int32) (0 : Int32) (0 : Int32)
theorem pd_0 : parseMethodDescriptor "()V" = some ⟨[], none⟩ := by decide +kernel
theorem d2_0 : decode prog_3_method_1_code 0 = .ok (.aload_n 0, 1) := by decide +kernel
theorem d2_1 : decode prog_3_method_1_code 1 = .ok (.invokespecial 7, 3) := by decide +kernel
theorem d2_4 : decode prog_3_method_1_code 4 = .ok (.aload_n 0, 1) := by decide +kernel
theorem d2_5 : decode prog_3_method_1_code 5 = .ok (.getstatic 13, 3) := by decide +kernel
theorem d2_8 : decode prog_3_method_1_code 8 = .ok (.putfield 19, 3) := by decide +kernel
theorem d2_11 : decode prog_3_method_1_code 11 = .ok (.aload_n 0, 1) := by decide +kernel
theorem d2_12 : decode prog_3_method_1_code 12 = .ok (.iconst 4, 1) := by decide +kernel
theorem d2_13 : decode prog_3_method_1_code 13 = .ok (.newarray .char, 2) := by decide +kernel
theorem d2_15 : decode prog_3_method_1_code 15 = .ok (.putfield 22, 3) := by decide +kernel
theorem d2_18 : decode prog_3_method_1_code 18 = .ok (.aload_n 0, 1) := by decide +kernel
theorem d2_19 : decode prog_3_method_1_code 19 = .ok (.getfield 22, 3) := by decide +kernel
theorem d2_22 : decode prog_3_method_1_code 22 = .ok (.iconst 0, 1) := by decide +kernel
theorem d2_23 : decode prog_3_method_1_code 23 = .ok (.iload_n 1, 1) := by decide +kernel
theorem d2_24 : decode prog_3_method_1_code 24 = .ok (.castore, 1) := by decide +kernel
theorem d2_25 : decode prog_3_method_1_code 25 = .ok (.aload_n 0, 1) := by decide +kernel
theorem d2_26 : decode prog_3_method_1_code 26 = .ok (.iconst 1, 1) := by decide +kernel
theorem d2_27 : decode prog_3_method_1_code 27 = .ok (.putfield 26, 3) := by decide +kernel
theorem d2_30 : decode prog_3_method_1_code 30 = .ok (.return_, 1) := by decide +kernel
theorem pn_2 : plainName "com/example/cairn/cairn/ArrayContainer" = true := by first | (simp [plainName, overriddenIn]; done) | decide +kernel
theorem ef_rm2 (m : MethodId) (x0 : Addr) (x1 : Int32) : entryFrame m #[(.ref x0), (.int x1)] 2 = mkF m 0 #[.val (.ref x0), .val (.int x1)] [] := by first | (simp [entryFrame, mkF, argsToLocals, Value.category]; done) | rfl
set_option maxRecDepth 65536 in
set_option maxHeartbeats 40000000 in
theorem rm2 (l : Launch) (Z : State) (a0 : Array Value) (hw : ∀ d ∈ tables_1, d.before a0 Z = true) (ws : List Jvm.Cond) (a1 : Addr) (p2 : Int32) (u : Addr) (ku : ClassId) (h0 : Heap) (n0 : Nat) (Z0 : n0 ≤ h0.size) (E_a : Exa Z h0 a1 "com/example/cairn/cairn/ArrayContainer") (g_a : n0 ≤ a1) (F_v : Fld Z h0 a1 "com/example/cairn/cairn/ArrayContainer" "values" "[C" .null) (F_c : Fld Z h0 a1 "com/example/cairn/cairn/ArrayContainer" "cardinality" "C" (.int (0 : Int32))) (F_o : Fld Z h0 a1 "com/example/cairn/cairn/ArrayContainer" "occupiedWords" "[J" .null) (F_h : Fld Z h0 a1 "com/example/cairn/cairn/Container" "shared" "Z" (.int (0 : Int32))) (S_u : Sta Z h0 "com/example/cairn/cairn/ArrayContainer" "UNMET" "[J" (.ref u)) (V_u : Arv Z h0 u ku .long (0 : Int32) [] (.long (0 : Int64))) (ne_u : u ≠ a1) :
    MetFree l (⟨"com/example/cairn/cairn/ArrayContainer", "<init>", "(C)V"⟩ : MethodName) (head1 (Jvm.Cond.code (⟨"com/example/cairn/cairn/ArrayContainer", "<init>", "(C)V"⟩ : MethodName) prog_3_method_1_code 2 none :: ws) ({ frames := 2, cells := 1, slots := 4, locals := 24 } : Room)) (fun a U => a = #[(.ref a1), (.int p2)] ∧ Z.Warmed39 U.vm ∧ U.heap = h0) (fun _ _ _ _ _ => True) (fun _ U o U' => ∃ v L, o = .returned v ∧ (Q_rm2 Z a1 p2 u ku h0 n0) v U'.heap L ∧ FrameEnd U o U' L ({ frames := 2, cells := 1, slots := 4, locals := 24 } : Room).cells ({ frames := 2, cells := 1, slots := 4, locals := 24 } : Room).slots) := by
  refine MetFree.of_bodySF (plainFor_of_name pn_2) hisR ?_
  intro p e s m args below meth c s₁ Bd hml0 hP hK
  obtain ⟨rfl, hZ, hh⟩ := hP
  have hx := Bd.exec
  have hby := Bd.bytes
  have hml : c.maxLocals = 2 := hml0
  have hown : s.vm.findClass "com/example/cairn/cairn/ArrayContainer" = some m.cls := findClass_of_methodNamed Bd.named
  have hnm := (name_of_methodNamed Bd.named Bd.method).1
  have X0 : Stand p l e ({ frames := 2, cells := 1, slots := 4, locals := 24 } : Room) s m #[(.ref a1), (.int p2)] below meth c s₁ [] 0 0 := Stand.of_body Bd
  have e0 : s₁.heap = h0 := by rw [← hh, Bd.state]; rfl
  have N0 := Fr.nil n0
  show WP p e below (GG (Q_rm2 Z a1 p2 u ku h0 n0) s ({ frames := 2, cells := 1, slots := 4, locals := 24 } : Room).cells ({ frames := 2, cells := 1, slots := 4, locals := 24 } : Room).slots) (s₁.setTop (entryFrame m #[(.ref a1), (.int p2)] 2))
  rw [ef_rm2 m a1 p2]
  show WP p e below _ (s₁.setTop (mkF m 0 #[.val (.ref a1), .val (.int p2)] []))
  refine own_go (fun t_ k => XS.aloadN X0.here hx rfl (hb hby d2_0) rfl rfl k) ?_
  show WP p e below _ (s₁.setTop (mkF m 1 #[.val (.ref a1), .val (.int p2)] [(.ref a1)]))
  obtain ⟨_, _, ⟨T1, L1, k1, n1⟩, -, X1, ⟨Lc1, hQ1, l1, y1, z1⟩, st1⟩ := X0.specialBack hx (y := (⟨"com/example/cairn/cairn/Container", "<init>", "()V"⟩ : MethodName)) rfl hown (mvT hZ (hw _ (List.mem_of_getElem? (i := 12) rfl))) (mvT hZ (hw _ (List.mem_of_getElem? (i := 13) rfl))) (mvT hZ (hw _ (List.mem_of_getElem? (i := 16) rfl))) (by decide) (backOf (W := 0) (rm3 l Z a0 hw [] a1 h0 n0) hZ (hw _ (List.mem_of_getElem? (i := 16) rfl)) (hw _ (List.mem_of_getElem? (i := 15) rfl)) (by decide) (by decide)) (g := (mkF m 1 #[.val (.ref a1), .val (.int p2)] [(.ref a1)])) rfl (by rw [hml]; rfl) (Steps.refl _) (a := a1) (argsL := []) (rest := []) (lenOf pd_0 rfl) rfl (by show 2 * 0 + _ ≤ _; exact Nat.le_of_eq rfl) (hb hby d2_1) (fun _ _ => ⟨rfl, e0, (by decide : 0 + 0 ≤ _), (by decide : 0 + 0 ≤ _)⟩)
  dsimp only [Pt.U, Pt.locs, Pt.cells, Pt.slots] at X1 l1 y1 z1 st1 hQ1
  subst l1 y1 z1
  obtain ⟨rfl, N1q, e1⟩ := hQ1
  have N1 := Fr.app N0 N1q
  replace X1 : Stand p l e ({ frames := 2, cells := 1, slots := 4, locals := 24 } : Room) s m _ below meth c T1 _ 0 0 := X1
  refine own_go (fun t_ k => st1.trans k) ?_
  show WP p e below _ (T1.setTop (mkF m 4 #[.val (.ref a1), .val (.int p2)] []))
  refine own_go (fun t_ k => XS.aloadN X1.here hx rfl (hb hby d2_4) rfl rfl k) ?_
  show WP p e below _ (T1.setTop (mkF m 5 #[.val (.ref a1), .val (.int p2)] [(.ref a1)]))
  obtain ⟨T2, X2, e2, st2⟩ := getS2 X1 hx hZ hown (host := "") (Or.inl (hw _ (List.mem_of_getElem? (i := 20) rfl))) Via.refl e1 S_u (g := (mkF m 5 #[.val (.ref a1), .val (.int p2)] [(.ref a1)])) rfl (hb hby d2_5)
  refine own_go st2 ?_
  show WP p e below _ (T2.setTop (mkF m 8 #[.val (.ref a1), .val (.int p2)] [(.ref u), (.ref a1)]))
  obtain ⟨T3, h3, X3, e3, W3, st3⟩ := putF X2 hx hZ hown (host := "") (Or.inl (hw _ (List.mem_of_getElem? (i := 22) rfl))) Via.refl e2 F_o E_a (Or.inl (hw _ (List.mem_of_getElem? (i := 23) rfl))) (hw _ (List.mem_of_getElem? (i := 7) rfl)) (ty := (.array .long)) (by decide) rfl rfl (g := (mkF m 8 #[.val (.ref a1), .val (.int p2)] [(.ref u), (.ref a1)])) rfl rfl (hb hby d2_8)
  refine own_go st3 ?_
  have Fw3 := F_o.same W3
  have N3 := Fr.snoc X3 N1 g_a
  have K3 : Keep h0 h3 [a1] := (Keep.refl h0 [a1]).wr W3 (Or.inl (List.mem_of_getElem? (i := 0) rfl))
  show WP p e below _ (T3.setTop (mkF m 11 #[.val (.ref a1), .val (.int p2)] []))
  refine own_go (fun t_ k => XS.aloadN X3.here hx rfl (hb hby d2_11) rfl rfl k) ?_
  show WP p e below _ (T3.setTop (mkF m 12 #[.val (.ref a1), .val (.int p2)] [(.ref a1)]))
  refine own_go (fun t_ k => XS.iconst X3.here hx rfl (hb hby d2_12) k) ?_
  show WP p e below _ (T3.setTop (mkF m 13 #[.val (.ref a1), .val (.int p2)] [(.int (4 : Int32)), (.ref a1)]))
  obtain ⟨T4, h4, k4, X4, e4, E4, A4, st4⟩ := newP X3 hx hZ (hw _ (List.mem_of_getElem? (i := 24) rfl)) e3 (g := (mkF m 13 #[.val (.ref a1), .val (.int p2)] [(.int (4 : Int32)), (.ref a1)])) rfl (hb hby d2_13) rfl (by decide) (cap := 4) (by decide) (by decide) (by decide) (by decide)
  obtain ⟨b4, g4⟩ : ∃ z, z = Array.size h3 := ⟨_, rfl⟩
  rw [← g4] at A4 st4
  refine own_go st4 ?_
  have g_b4 : n0 ≤ b4 := Nat.le_trans (Nat.le_trans Z0 K3.1) (Nat.le_of_eq g4.symm)
  have sz_b4 : h0.size ≤ b4 := Nat.le_trans K3.1 (Nat.le_of_eq g4.symm)
  have ne_a1_b4 : a1 ≠ b4 := Nat.ne_of_lt (Nat.lt_of_lt_of_le (E_a.wr W3).lt (Nat.le_of_eq g4.symm))
  have ne_u_b4 : u ≠ b4 := Nat.ne_of_lt (Nat.lt_of_lt_of_le (V_u.other W3 ne_u).lt (Nat.le_of_eq g4.symm))
  have K4 : Keep h0 h4 [a1] := K3.ext E4
  have V4 : Arv Z h4 b4 k4 .char (4 : Int32) [(.int (0 : Int32)), (.int (0 : Int32)), (.int (0 : Int32)), (.int (0 : Int32))] (.int (0 : Int32)) := (Arv.new A4 (by decide)).pad (pad_rep [] (.int (0 : Int32)) 4)
  show WP p e below _ (T4.setTop (mkF m 15 #[.val (.ref a1), .val (.int p2)] [(.ref b4), (.ref a1)]))
  obtain ⟨T5, h5, X5, e5, W5, st5⟩ := putF X4 hx hZ hown (host := "") (Or.inl (hw _ (List.mem_of_getElem? (i := 25) rfl))) Via.refl e4 ((F_v.other W3 (Or.inr (slot_ne (Or.inl (hw _ (List.mem_of_getElem? (i := 26) rfl))) (Or.inl (hw _ (List.mem_of_getElem? (i := 23) rfl))) (by decide) (t := (.array .char)) (t' := (.array .long)) (by decide) (by decide)))).ext E4) ((E_a.wr W3).ext E4) (Or.inl (hw _ (List.mem_of_getElem? (i := 26) rfl))) (hw _ (List.mem_of_getElem? (i := 7) rfl)) (ty := (.array .char)) (by decide) rfl rfl (g := (mkF m 15 #[.val (.ref a1), .val (.int p2)] [(.ref b4), (.ref a1)])) rfl rfl (hb hby d2_15)
  refine own_go st5 ?_
  have Fw5 := ((F_v.other W3 (Or.inr (slot_ne (Or.inl (hw _ (List.mem_of_getElem? (i := 26) rfl))) (Or.inl (hw _ (List.mem_of_getElem? (i := 23) rfl))) (by decide) (t := (.array .char)) (t' := (.array .long)) (by decide) (by decide)))).ext E4).same W5
  have N5 := Fr.snoc X5 N3 g_a
  have K5 : Keep h0 h5 [a1] := K4.wr W5 (Or.inl (List.mem_of_getElem? (i := 0) rfl))
  show WP p e below _ (T5.setTop (mkF m 18 #[.val (.ref a1), .val (.int p2)] []))
  refine own_go (fun t_ k => XS.aloadN X5.here hx rfl (hb hby d2_18) rfl rfl k) ?_
  show WP p e below _ (T5.setTop (mkF m 19 #[.val (.ref a1), .val (.int p2)] [(.ref a1)]))
  obtain ⟨T6, X6, e6, st6⟩ := getF X5 hx hZ hown (host := "") (Or.inl (hw _ (List.mem_of_getElem? (i := 25) rfl))) Via.refl e5 Fw5 (g := (mkF m 19 #[.val (.ref a1), .val (.int p2)] [(.ref a1)])) rfl rfl (hb hby d2_19)
  refine own_go st6 ?_
  show WP p e below _ (T6.setTop (mkF m 22 #[.val (.ref a1), .val (.int p2)] [(.ref b4)]))
  refine own_go (fun t_ k => XS.iconst X6.here hx rfl (hb hby d2_22) k) ?_
  show WP p e below _ (T6.setTop (mkF m 23 #[.val (.ref a1), .val (.int p2)] [(.int (0 : Int32)), (.ref b4)]))
  refine own_go (fun t_ k => XS.iloadN X6.here hx rfl (hb hby d2_23) rfl k) ?_
  show WP p e below _ (T6.setTop (mkF m 24 #[.val (.ref a1), .val (.int p2)] [(.int p2), (.int (0 : Int32)), (.ref b4)]))
  obtain ⟨cl7, Ar7, q7, S7, M7, H7, G7⟩ := id ((V4.other W5 (Ne.symm ne_a1_b4)))
  have hin7 : ¬ ((0 : Int32) < 0 ∨ cl7.slots.size ≤ ((0 : Int32)).toNatClampNeg) := inb_of S7 (⟨by decide, by decide⟩)
  obtain ⟨T8, h8, X8, e8, W8, st8⟩ := stC X6 hx hZ e6 Ar7 (j := (0 : Int32)) hin7 (g := (mkF m 24 #[.val (.ref a1), .val (.int p2)] [(.int p2), (.int (0 : Int32)), (.ref b4)])) rfl rfl (hb hby d2_24)
  refine own_go st8 ?_
  have V8 : Arv Z h8 b4 k4 .char (4 : Int32) [(.int (p2.toUInt32.toUInt16.toUInt32.toInt32)), (.int (0 : Int32)), (.int (0 : Int32)), (.int (0 : Int32))] (.int (0 : Int32)) := Arv.set Ar7 q7 S7 M7 H7 G7 (fits_nar_char _) W8 0 rfl (Nat.le_of_ble_eq_true rfl)
  have N8 := Fr.snoc X8 N5 g_b4
  have K8 : Keep h0 h8 [a1] := K5.wr W8 (Or.inr sz_b4)
  show WP p e below _ (T8.setTop (mkF m 25 #[.val (.ref a1), .val (.int p2)] []))
  refine own_go (fun t_ k => XS.aloadN X8.here hx rfl (hb hby d2_25) rfl rfl k) ?_
  show WP p e below _ (T8.setTop (mkF m 26 #[.val (.ref a1), .val (.int p2)] [(.ref a1)]))
  refine own_go (fun t_ k => XS.iconst X8.here hx rfl (hb hby d2_26) k) ?_
  show WP p e below _ (T8.setTop (mkF m 27 #[.val (.ref a1), .val (.int p2)] [(.int (1 : Int32)), (.ref a1)]))
  obtain ⟨T9, h9, X9, e9, W9, st9⟩ := putFN X8 hx hZ hown (hw _ (List.mem_of_getElem? (i := 27) rfl)) Via.refl e8 ((((F_c.other W3 (Or.inr (slot_ne (Or.inl (hw _ (List.mem_of_getElem? (i := 28) rfl))) (Or.inl (hw _ (List.mem_of_getElem? (i := 23) rfl))) (by decide) (t := .char) (t' := (.array .long)) (by decide) (by decide)))).ext E4).other W5 (Or.inr (slot_ne (Or.inl (hw _ (List.mem_of_getElem? (i := 28) rfl))) (Or.inl (hw _ (List.mem_of_getElem? (i := 26) rfl))) (by decide) (t := .char) (t' := (.array .char)) (by decide) (by decide)))).other W8 (Or.inl ne_a1_b4)) ((((E_a.wr W3).ext E4).wr W5).wr W8) (Or.inl (hw _ (List.mem_of_getElem? (i := 28) rfl))) (hw _ (List.mem_of_getElem? (i := 7) rfl)) (ty := .char) (v' := (.int (1 : Int32))) (by decide) rfl (by decide) (g := (mkF m 27 #[.val (.ref a1), .val (.int p2)] [(.int (1 : Int32)), (.ref a1)])) rfl rfl (hb hby d2_27)
  refine own_go st9 ?_
  have Fw9 := ((((F_c.other W3 (Or.inr (slot_ne (Or.inl (hw _ (List.mem_of_getElem? (i := 28) rfl))) (Or.inl (hw _ (List.mem_of_getElem? (i := 23) rfl))) (by decide) (t := .char) (t' := (.array .long)) (by decide) (by decide)))).ext E4).other W5 (Or.inr (slot_ne (Or.inl (hw _ (List.mem_of_getElem? (i := 28) rfl))) (Or.inl (hw _ (List.mem_of_getElem? (i := 26) rfl))) (by decide) (t := .char) (t' := (.array .char)) (by decide) (by decide)))).other W8 (Or.inl ne_a1_b4)).same W9
  have N9 := Fr.snoc X9 N8 g_a
  have K9 : Keep h0 h9 [a1] := K8.wr W9 (Or.inl (List.mem_of_getElem? (i := 0) rfl))
  show WP p e below _ (T9.setTop (mkF m 30 #[.val (.ref a1), .val (.int p2)] []))
  exact own_ret0 X9 hx Bd.notSynchronized Bd.returns (hb hby d2_30) (by rw [e9]; exact ⟨rfl, N9, K9, b4, k4, g_b4, sz_b4, ⟨(((((E_a.wr W3).ext E4).wr W5).wr W8).wr W9), ((Fw5.other W8 (Or.inl ne_a1_b4)).other W9 (Or.inr (slot_ne (Or.inl (hw _ (List.mem_of_getElem? (i := 26) rfl))) (Or.inl (hw _ (List.mem_of_getElem? (i := 28) rfl))) (by decide) (t := (.array .char)) (t' := .char) (by decide) (by decide)))), Fw9, ((((Fw3.ext E4).other W5 (Or.inr (slot_ne (Or.inl (hw _ (List.mem_of_getElem? (i := 23) rfl))) (Or.inl (hw _ (List.mem_of_getElem? (i := 26) rfl))) (by decide) (t := (.array .long)) (t' := (.array .char)) (by decide) (by decide)))).other W8 (Or.inl ne_a1_b4)).other W9 (Or.inr (slot_ne (Or.inl (hw _ (List.mem_of_getElem? (i := 23) rfl))) (Or.inl (hw _ (List.mem_of_getElem? (i := 28) rfl))) (by decide) (t := (.array .long)) (t' := .char) (by decide) (by decide)))), (((((F_h.other W3 (Or.inr (slot_ne (Or.inl (hw _ (List.mem_of_getElem? (i := 41) rfl))) (Or.inl (hw _ (List.mem_of_getElem? (i := 23) rfl))) (by decide) (t := .boolean) (t' := (.array .long)) (by decide) (by decide)))).ext E4).other W5 (Or.inr (slot_ne (Or.inl (hw _ (List.mem_of_getElem? (i := 41) rfl))) (Or.inl (hw _ (List.mem_of_getElem? (i := 26) rfl))) (by decide) (t := .boolean) (t' := (.array .char)) (by decide) (by decide)))).other W8 (Or.inl ne_a1_b4)).other W9 (Or.inr (slot_ne (Or.inl (hw _ (List.mem_of_getElem? (i := 41) rfl))) (Or.inl (hw _ (List.mem_of_getElem? (i := 28) rfl))) (by decide) (t := .boolean) (t' := .char) (by decide) (by decide)))), (V8.other W9 (Ne.symm ne_a1_b4)), (((((V_u.other W3 ne_u).ext E4).other W5 ne_u).other W8 ne_u_b4).other W9 ne_u), ne_a1_b4, ne_u, ne_u_b4⟩⟩) (by decide) (by decide)
theorem d6_0 : decode prog_28_method_16_code 0 = .ok (.aload_n 0, 1) := by decide +kernel
theorem d6_1 : decode prog_28_method_16_code 1 = .ok (.getfield 30, 3) := by decide +kernel
theorem d6_4 : decode prog_28_method_16_code 4 = .ok (.ireturn, 1) := by decide +kernel
theorem ef_rm_sh (m : MethodId) (x0 : Addr) : entryFrame m #[(.ref x0)] 1 = mkF m 0 #[.val (.ref x0)] [] := by first | (simp [entryFrame, mkF, argsToLocals, Value.category]; done) | rfl
set_option maxRecDepth 65536 in
set_option maxHeartbeats 40000000 in
theorem rm_sh (l : Launch) (Z : State) (a0 : Array Value) (hw : ∀ d ∈ tables_1, d.before a0 Z = true) (ws : List Jvm.Cond) (a1 : Addr) (h0 : Heap) (n0 : Nat) (F_h : Fld Z h0 a1 "com/example/cairn/cairn/Container" "shared" "Z" (.int (0 : Int32))) :
    MetFree l (⟨"com/example/cairn/cairn/Container", "isShared", "()Z"⟩ : MethodName) (head1 (Jvm.Cond.code (⟨"com/example/cairn/cairn/Container", "isShared", "()Z"⟩ : MethodName) prog_28_method_16_code 1 (some .boolean) :: ws) ({ frames := 0, cells := 0, slots := 0, locals := 0 } : Room)) (fun a U => a = #[(.ref a1)] ∧ Z.Warmed39 U.vm ∧ U.heap = h0) (fun _ _ _ _ _ => True) (fun _ U o U' => ∃ v L, o = .returned v ∧ (PQ h0 n0 (.int (0 : Int32))) v U'.heap L ∧ FrameEnd U o U' L ({ frames := 0, cells := 0, slots := 0, locals := 0 } : Room).cells ({ frames := 0, cells := 0, slots := 0, locals := 0 } : Room).slots) := by
  refine MetFree.of_bodySF (plainFor_of_name pn_1) hisR ?_
  intro p e s m args below meth c s₁ Bd hml0 hP hK
  obtain ⟨rfl, hZ, hh⟩ := hP
  have hx := Bd.exec
  have hby := Bd.bytes
  have hml : c.maxLocals = 1 := hml0
  have hown : s.vm.findClass "com/example/cairn/cairn/Container" = some m.cls := findClass_of_methodNamed Bd.named
  have hnm := (name_of_methodNamed Bd.named Bd.method).1
  have X0 : Stand p l e ({ frames := 0, cells := 0, slots := 0, locals := 0 } : Room) s m #[(.ref a1)] below meth c s₁ [] 0 0 := Stand.of_body Bd
  have e0 : s₁.heap = h0 := by rw [← hh, Bd.state]; rfl
  have N0 := Fr.nil n0
  show WP p e below (GG (PQ h0 n0 (.int (0 : Int32))) s ({ frames := 0, cells := 0, slots := 0, locals := 0 } : Room).cells ({ frames := 0, cells := 0, slots := 0, locals := 0 } : Room).slots) (s₁.setTop (entryFrame m #[(.ref a1)] 1))
  rw [ef_rm_sh m a1]
  show WP p e below _ (s₁.setTop (mkF m 0 #[.val (.ref a1)] []))
  refine own_go (fun t_ k => XS.aloadN X0.here hx rfl (hb hby d6_0) rfl rfl k) ?_
  show WP p e below _ (s₁.setTop (mkF m 1 #[.val (.ref a1)] [(.ref a1)]))
  obtain ⟨T1, X1, e1, st1⟩ := getF X0 hx hZ hown (host := "") (Or.inl (hw _ (List.mem_of_getElem? (i := 40) rfl))) Via.refl e0 F_h (g := (mkF m 1 #[.val (.ref a1)] [(.ref a1)])) rfl rfl (hb hby d6_1)
  refine own_go st1 ?_
  show WP p e below _ (T1.setTop (mkF m 4 #[.val (.ref a1)] [(.int (0 : Int32))]))
  exact own_retZ X1 hx Bd.notSynchronized Bd.returns (hb hby d6_4) (by decide) (show PQ h0 n0 (.int (0 : Int32)) _ _ _ from ⟨rfl, N0, e1⟩) (by decide) (by decide)
def Q_rm_a1 (Z : State) (a1 : Addr) (p2 : Int32) (t : Addr) (k : ClassId) (u : Addr) (ku : ClassId) (c0 : Int32) (c1 : Int32) (c2 : Int32) (c3 : Int32) (h0 : Heap) (n0 : Nat) (v : Option Value) (h : Heap) (L : List Loc) : Prop := v = some (.ref a1) ∧ Fr n0 L ∧ Keep h0 h [a1, t] ∧ AC Z h a1 t k u ku (2 : Int32) c0 (p2.toUInt32.toUInt16.toUInt32.toInt32) c2 c3
theorem pd_1 : parseMethodDescriptor "()Z" = some ⟨[], some .boolean⟩ := by decide +kernel
theorem d5_0 : decode prog_3_method_9_code 0 = .ok (.aload_n 0, 1) := by decide +kernel
theorem d5_1 : decode prog_3_method_9_code 1 = .ok (.getfield 26, 3) := by decide +kernel
theorem d5_4 : decode prog_3_method_9_code 4 = .ok (.istore_n 2, 1) := by decide +kernel
theorem d5_5 : decode prog_3_method_9_code 5 = .ok (.iload_n 2, 1) := by decide +kernel
theorem d5_6 : decode prog_3_method_9_code 6 = .ok (.ifCond .le 48, 3) := by decide +kernel
theorem d5_9 : decode prog_3_method_9_code 9 = .ok (.iload_n 2, 1) := by decide +kernel
theorem d5_10 : decode prog_3_method_9_code 10 = .ok (.aload_n 0, 1) := by decide +kernel
theorem d5_11 : decode prog_3_method_9_code 11 = .ok (.getfield 22, 3) := by decide +kernel
theorem d5_14 : decode prog_3_method_9_code 14 = .ok (.arraylength, 1) := by decide +kernel
theorem d5_15 : decode prog_3_method_9_code 15 = .ok (.if_icmp .ge 39, 3) := by decide +kernel
theorem d5_18 : decode prog_3_method_9_code 18 = .ok (.iload_n 1, 1) := by decide +kernel
theorem d5_19 : decode prog_3_method_9_code 19 = .ok (.aload_n 0, 1) := by decide +kernel
theorem d5_20 : decode prog_3_method_9_code 20 = .ok (.getfield 22, 3) := by decide +kernel
theorem d5_23 : decode prog_3_method_9_code 23 = .ok (.iload_n 2, 1) := by decide +kernel
theorem d5_24 : decode prog_3_method_9_code 24 = .ok (.iconst 1, 1) := by decide +kernel
theorem d5_25 : decode prog_3_method_9_code 25 = .ok (.isub, 1) := by decide +kernel
theorem d5_26 : decode prog_3_method_9_code 26 = .ok (.caload, 1) := by decide +kernel
theorem d5_27 : decode prog_3_method_9_code 27 = .ok (.if_icmp .le 27, 3) := by decide +kernel
theorem d5_30 : decode prog_3_method_9_code 30 = .ok (.aload_n 0, 1) := by decide +kernel
theorem d5_31 : decode prog_3_method_9_code 31 = .ok (.invokevirtual 57, 3) := by decide +kernel
theorem d5_34 : decode prog_3_method_9_code 34 = .ok (.ifCond .ne 20, 3) := by decide +kernel
theorem d5_37 : decode prog_3_method_9_code 37 = .ok (.aload_n 0, 1) := by decide +kernel
theorem d5_38 : decode prog_3_method_9_code 38 = .ok (.getfield 22, 3) := by decide +kernel
theorem d5_41 : decode prog_3_method_9_code 41 = .ok (.iload_n 2, 1) := by decide +kernel
theorem d5_42 : decode prog_3_method_9_code 42 = .ok (.iload_n 1, 1) := by decide +kernel
theorem d5_43 : decode prog_3_method_9_code 43 = .ok (.castore, 1) := by decide +kernel
theorem d5_44 : decode prog_3_method_9_code 44 = .ok (.aload_n 0, 1) := by decide +kernel
theorem d5_45 : decode prog_3_method_9_code 45 = .ok (.iload_n 2, 1) := by decide +kernel
theorem d5_46 : decode prog_3_method_9_code 46 = .ok (.iconst 1, 1) := by decide +kernel
theorem d5_47 : decode prog_3_method_9_code 47 = .ok (.iadd, 1) := by decide +kernel
theorem d5_48 : decode prog_3_method_9_code 48 = .ok (.i2c, 1) := by decide +kernel
theorem d5_49 : decode prog_3_method_9_code 49 = .ok (.putfield 26, 3) := by decide +kernel
theorem d5_52 : decode prog_3_method_9_code 52 = .ok (.aload_n 0, 1) := by decide +kernel
theorem d5_53 : decode prog_3_method_9_code 53 = .ok (.areturn, 1) := by decide +kernel
theorem ef_rm_a1 (m : MethodId) (x0 : Addr) (x1 : Int32) : entryFrame m #[(.ref x0), (.int x1)] 3 = mkF m 0 #[.val (.ref x0), .val (.int x1), .unset] [] := by first | (simp [entryFrame, mkF, argsToLocals, Value.category]; done) | rfl
set_option maxRecDepth 65536 in
set_option maxHeartbeats 40000000 in
theorem rm_a1 (l : Launch) (Z : State) (a0 : Array Value) (hw : ∀ d ∈ tables_1, d.before a0 Z = true) (ws : List Jvm.Cond) (a1 : Addr) (p2 : Int32) (t : Addr) (k : ClassId) (u : Addr) (ku : ClassId) (c0 : Int32) (c1 : Int32) (c2 : Int32) (c3 : Int32) (h0 : Heap) (n0 : Nat) (G : AC Z h0 a1 t k u ku (1 : Int32) c0 c1 c2 c3) (g_a : n0 ≤ a1) (g_t : n0 ≤ t) (hlt : c0 < p2) :
    MetFree l (⟨"com/example/cairn/cairn/ArrayContainer", "add", "(C)Lcom/example/cairn/cairn/Container;"⟩ : MethodName) (head1 (Jvm.Cond.code (⟨"com/example/cairn/cairn/ArrayContainer", "add", "(C)Lcom/example/cairn/cairn/Container;"⟩ : MethodName) prog_3_method_9_code 3 (some (.object "com/example/cairn/cairn/Container")) :: ws) ({ frames := 1, cells := 0, slots := 0, locals := 12 } : Room)) (fun a U => a = #[(.ref a1), (.int p2)] ∧ Z.Warmed39 U.vm ∧ U.heap = h0) (fun _ _ _ _ _ => True) (fun _ U o U' => ∃ v L, o = .returned v ∧ (Q_rm_a1 Z a1 p2 t k u ku c0 c1 c2 c3 h0 n0) v U'.heap L ∧ FrameEnd U o U' L ({ frames := 1, cells := 0, slots := 0, locals := 12 } : Room).cells ({ frames := 1, cells := 0, slots := 0, locals := 12 } : Room).slots) := by
  refine MetFree.of_bodySF (plainFor_of_name pn_2) hisR ?_
  intro p e s m args below meth c s₁ Bd hml0 hP hK
  obtain ⟨rfl, hZ, hh⟩ := hP
  have hx := Bd.exec
  have hby := Bd.bytes
  have hml : c.maxLocals = 3 := hml0
  have hown : s.vm.findClass "com/example/cairn/cairn/ArrayContainer" = some m.cls := findClass_of_methodNamed Bd.named
  have hnm := (name_of_methodNamed Bd.named Bd.method).1
  have X0 : Stand p l e ({ frames := 1, cells := 0, slots := 0, locals := 12 } : Room) s m #[(.ref a1), (.int p2)] below meth c s₁ [] 0 0 := Stand.of_body Bd
  have e0 : s₁.heap = h0 := by rw [← hh, Bd.state]; rfl
  have N0 := Fr.nil n0
  show WP p e below (GG (Q_rm_a1 Z a1 p2 t k u ku c0 c1 c2 c3 h0 n0) s ({ frames := 1, cells := 0, slots := 0, locals := 12 } : Room).cells ({ frames := 1, cells := 0, slots := 0, locals := 12 } : Room).slots) (s₁.setTop (entryFrame m #[(.ref a1), (.int p2)] 3))
  rw [ef_rm_a1 m a1 p2]
  obtain ⟨E_a, F_v, F_c, F_o, F_h, V_t, V_u, ne_t, ne_u, ne_ut⟩ := id G
  show WP p e below _ (s₁.setTop (mkF m 0 #[.val (.ref a1), .val (.int p2), .unset] []))
  refine own_go (fun t_ k => XS.aloadN X0.here hx rfl (hb hby d5_0) rfl rfl k) ?_
  show WP p e below _ (s₁.setTop (mkF m 1 #[.val (.ref a1), .val (.int p2), .unset] [(.ref a1)]))
  obtain ⟨T1, X1, e1, st1⟩ := getF X0 hx hZ hown (host := "") (Or.inl (hw _ (List.mem_of_getElem? (i := 27) rfl))) Via.refl e0 F_c (g := (mkF m 1 #[.val (.ref a1), .val (.int p2), .unset] [(.ref a1)])) rfl rfl (hb hby d5_1)
  refine own_go st1 ?_
  show WP p e below _ (T1.setTop (mkF m 4 #[.val (.ref a1), .val (.int p2), .unset] [(.int (1 : Int32))]))
  refine own_go (fun t_ k => XS.istoreN X1.here hx rfl (hb hby d5_4) rfl (l' := #[.val (.ref a1), .val (.int p2), .val (.int (1 : Int32))]) rfl k) ?_
  show WP p e below _ (T1.setTop (mkF m 5 #[.val (.ref a1), .val (.int p2), .val (.int (1 : Int32))] []))
  refine own_go (fun t_ k => XS.iloadN X1.here hx rfl (hb hby d5_5) rfl k) ?_
  show WP p e below _ (T1.setTop (mkF m 6 #[.val (.ref a1), .val (.int p2), .val (.int (1 : Int32))] [(.int (1 : Int32))]))
  have hc6_2 : ((0 : Int32) < (1 : Int32)) := by decide
  refine own_go (fun t_ k => XS.ifNo X1.here hx rfl (hb hby d5_6) rfl ((if0 _ _).trans (tlt hc6_2).2.2.2) k) ?_
  show WP p e below _ (T1.setTop (mkF m 9 #[.val (.ref a1), .val (.int p2), .val (.int (1 : Int32))] []))
  refine own_go (fun t_ k => XS.iloadN X1.here hx rfl (hb hby d5_9) rfl k) ?_
  show WP p e below _ (T1.setTop (mkF m 10 #[.val (.ref a1), .val (.int p2), .val (.int (1 : Int32))] [(.int (1 : Int32))]))
  refine own_go (fun t_ k => XS.aloadN X1.here hx rfl (hb hby d5_10) rfl rfl k) ?_
  show WP p e below _ (T1.setTop (mkF m 11 #[.val (.ref a1), .val (.int p2), .val (.int (1 : Int32))] [(.ref a1), (.int (1 : Int32))]))
  obtain ⟨T3, X3, e3, st3⟩ := getF X1 hx hZ hown (host := "") (Or.inl (hw _ (List.mem_of_getElem? (i := 25) rfl))) Via.refl e1 F_v (g := (mkF m 11 #[.val (.ref a1), .val (.int p2), .val (.int (1 : Int32))] [(.ref a1), (.int (1 : Int32))])) rfl rfl (hb hby d5_11)
  refine own_go st3 ?_
  show WP p e below _ (T3.setTop (mkF m 14 #[.val (.ref a1), .val (.int p2), .val (.int (1 : Int32))] [(.ref t), (.int (1 : Int32))]))
  obtain ⟨cl4, Ar4, -, S4, M4, -, -⟩ := id (V_t)
  refine own_go (fun t_ k => X3.arraylength hx (by rw [e3]; exact Ar4.1) (State.isArrayOf_alike hZ.alike Ar4.2.1) (g := (mkF m 14 #[.val (.ref a1), .val (.int p2), .val (.int (1 : Int32))] [(.ref t), (.int (1 : Int32))])) rfl rfl (hb hby d5_14) _ (by rw [len_of S4 M4]; exact k)) ?_
  show WP p e below _ (T3.setTop (mkF m 15 #[.val (.ref a1), .val (.int p2), .val (.int (1 : Int32))] [(.int (4 : Int32)), (.int (1 : Int32))]))
  have hc15_5 : ((1 : Int32) < (4 : Int32)) := by decide
  refine own_go (fun t_ k => XS.icmpNo X3.here hx rfl (hb hby d5_15) rfl (tlt hc15_5).2.1 k) ?_
  show WP p e below _ (T3.setTop (mkF m 18 #[.val (.ref a1), .val (.int p2), .val (.int (1 : Int32))] []))
  refine own_go (fun t_ k => XS.iloadN X3.here hx rfl (hb hby d5_18) rfl k) ?_
  show WP p e below _ (T3.setTop (mkF m 19 #[.val (.ref a1), .val (.int p2), .val (.int (1 : Int32))] [(.int p2)]))
  refine own_go (fun t_ k => XS.aloadN X3.here hx rfl (hb hby d5_19) rfl rfl k) ?_
  show WP p e below _ (T3.setTop (mkF m 20 #[.val (.ref a1), .val (.int p2), .val (.int (1 : Int32))] [(.ref a1), (.int p2)]))
  obtain ⟨T6, X6, e6, st6⟩ := getF X3 hx hZ hown (host := "") (Or.inl (hw _ (List.mem_of_getElem? (i := 25) rfl))) Via.refl e3 F_v (g := (mkF m 20 #[.val (.ref a1), .val (.int p2), .val (.int (1 : Int32))] [(.ref a1), (.int p2)])) rfl rfl (hb hby d5_20)
  refine own_go st6 ?_
  show WP p e below _ (T6.setTop (mkF m 23 #[.val (.ref a1), .val (.int p2), .val (.int (1 : Int32))] [(.ref t), (.int p2)]))
  refine own_go (fun t_ k => XS.iloadN X6.here hx rfl (hb hby d5_23) rfl k) ?_
  show WP p e below _ (T6.setTop (mkF m 24 #[.val (.ref a1), .val (.int p2), .val (.int (1 : Int32))] [(.int (1 : Int32)), (.ref t), (.int p2)]))
  refine own_go (fun t_ k => XS.iconst X6.here hx rfl (hb hby d5_24) k) ?_
  show WP p e below _ (T6.setTop (mkF m 25 #[.val (.ref a1), .val (.int p2), .val (.int (1 : Int32))] [(.int (1 : Int32)), (.int (1 : Int32)), (.ref t), (.int p2)]))
  refine own_go (fun t_ k => XS.isub X6.here hx rfl (hb hby d5_25) rfl k) ?_
  show WP p e below _ (T6.setTop (mkF m 26 #[.val (.ref a1), .val (.int p2), .val (.int (1 : Int32))] [(.int (0 : Int32)), (.ref t), (.int p2)]))
  obtain ⟨cl7, Ar7, -, S7, M7, H7, -⟩ := id (V_t)
  have hin7 : ¬ ((0 : Int32) < 0 ∨ cl7.slots.size ≤ ((0 : Int32)).toNatClampNeg) := inb_of S7 (⟨by decide, by decide⟩)
  refine own_go (fun t_ k => X6.caload hx (j := (0 : Int32)) (v := (.int c0)) (by rw [e6]; exact Ar7.1) (State.isArrayOf_alike hZ.alike Ar7.2.1) Ar7.2.2 hin7 (H7.at hin7 rfl) (g := (mkF m 26 #[.val (.ref a1), .val (.int p2), .val (.int (1 : Int32))] [(.int (0 : Int32)), (.ref t), (.int p2)])) rfl rfl (hb hby d5_26) _ k) ?_
  show WP p e below _ (T6.setTop (mkF m 27 #[.val (.ref a1), .val (.int p2), .val (.int (1 : Int32))] [(.int c0), (.int p2)]))
  have hc27_8 : (c0 < p2) := hlt
  refine own_go (fun t_ k => XS.icmpNo X6.here hx rfl (hb hby d5_27) rfl (tlt hc27_8).2.2.2 k) ?_
  show WP p e below _ (T6.setTop (mkF m 30 #[.val (.ref a1), .val (.int p2), .val (.int (1 : Int32))] []))
  refine own_go (fun t_ k => XS.aloadN X6.here hx rfl (hb hby d5_30) rfl rfl k) ?_
  show WP p e below _ (T6.setTop (mkF m 31 #[.val (.ref a1), .val (.int p2), .val (.int (1 : Int32))] [(.ref a1)]))
  obtain ⟨cq9, kq9, q9a, q9b, q9c⟩ := isOf (T := T6) hZ e6 E_a
  obtain ⟨_, _, ⟨T9, L9, k9, n9⟩, -, X9, ⟨Lc9, hQ9, l9, y9, z9⟩, st9⟩ := X6.virtualBackUp hx (x := (⟨"com/example/cairn/cairn/ArrayContainer", "isShared", "()Z"⟩ : MethodName)) (y := (⟨"com/example/cairn/cairn/Container", "isShared", "()Z"⟩ : MethodName)) (owner := "com/example/cairn/cairn/Container") hown (mvT hZ (hw _ (List.mem_of_getElem? (i := 34) rfl))) (mvT hZ (hw _ (List.mem_of_getElem? (i := 35) rfl))) (mvT hZ (hw _ (List.mem_of_getElem? (i := 36) rfl))) (by decide) (mvT hZ (hw _ (List.mem_of_getElem? (i := 38) rfl))) (mvT hZ (hw _ (List.mem_of_getElem? (i := 37) rfl))) (backOf (W := 0) (rm_sh l Z a0 hw [] a1 h0 n0 F_h) hZ (hw _ (List.mem_of_getElem? (i := 39) rfl)) (hw _ (List.mem_of_getElem? (i := 15) rfl)) (by decide) (by decide)) q9a q9c (g := (mkF m 31 #[.val (.ref a1), .val (.int p2), .val (.int (1 : Int32))] [(.ref a1)])) rfl (by rw [hml]; rfl) (Steps.refl _) (argsL := []) (rest := []) (lenOf pd_1 rfl) rfl (by show 2 * 0 + _ ≤ _; exact Nat.le_of_eq rfl) (hb hby d5_31) (fun _ _ => ⟨rfl, e6, (by decide : 0 + 0 ≤ _), (by decide : 0 + 0 ≤ _)⟩)
  dsimp only [Pt.U, Pt.locs, Pt.cells, Pt.slots] at X9 l9 y9 z9 st9 hQ9
  subst l9 y9 z9
  obtain ⟨rfl, N9q, e9⟩ := hQ9
  have N9 := Fr.app N0 N9q
  replace X9 : Stand p l e ({ frames := 1, cells := 0, slots := 0, locals := 12 } : Room) s m _ below meth c T9 _ 0 0 := X9
  refine own_go (fun t_ k => st9.trans k) ?_
  show WP p e below _ (T9.setTop (mkF m 34 #[.val (.ref a1), .val (.int p2), .val (.int (1 : Int32))] [(.int (0 : Int32))]))
  have hc34_10 : ((0 : Int32) = (0 : Int32)) := by decide
  refine own_go (fun t_ k => XS.ifNo X9.here hx rfl (hb hby d5_34) rfl ((if0 _ _).trans (teq hc34_10).2) k) ?_
  show WP p e below _ (T9.setTop (mkF m 37 #[.val (.ref a1), .val (.int p2), .val (.int (1 : Int32))] []))
  refine own_go (fun t_ k => XS.aloadN X9.here hx rfl (hb hby d5_37) rfl rfl k) ?_
  show WP p e below _ (T9.setTop (mkF m 38 #[.val (.ref a1), .val (.int p2), .val (.int (1 : Int32))] [(.ref a1)]))
  obtain ⟨T11, X11, e11, st11⟩ := getF X9 hx hZ hown (host := "") (Or.inl (hw _ (List.mem_of_getElem? (i := 25) rfl))) Via.refl e9 F_v (g := (mkF m 38 #[.val (.ref a1), .val (.int p2), .val (.int (1 : Int32))] [(.ref a1)])) rfl rfl (hb hby d5_38)
  refine own_go st11 ?_
  show WP p e below _ (T11.setTop (mkF m 41 #[.val (.ref a1), .val (.int p2), .val (.int (1 : Int32))] [(.ref t)]))
  refine own_go (fun t_ k => XS.iloadN X11.here hx rfl (hb hby d5_41) rfl k) ?_
  show WP p e below _ (T11.setTop (mkF m 42 #[.val (.ref a1), .val (.int p2), .val (.int (1 : Int32))] [(.int (1 : Int32)), (.ref t)]))
  refine own_go (fun t_ k => XS.iloadN X11.here hx rfl (hb hby d5_42) rfl k) ?_
  show WP p e below _ (T11.setTop (mkF m 43 #[.val (.ref a1), .val (.int p2), .val (.int (1 : Int32))] [(.int p2), (.int (1 : Int32)), (.ref t)]))
  obtain ⟨cl12, Ar12, q12, S12, M12, H12, G12⟩ := id (V_t)
  have hin12 : ¬ ((1 : Int32) < 0 ∨ cl12.slots.size ≤ ((1 : Int32)).toNatClampNeg) := inb_of S12 (⟨by decide, by decide⟩)
  obtain ⟨T13, h13, X13, e13, W13, st13⟩ := stC X11 hx hZ e11 Ar12 (j := (1 : Int32)) hin12 (g := (mkF m 43 #[.val (.ref a1), .val (.int p2), .val (.int (1 : Int32))] [(.int p2), (.int (1 : Int32)), (.ref t)])) rfl rfl (hb hby d5_43)
  refine own_go st13 ?_
  have V13 : Arv Z h13 t k .char (4 : Int32) [(.int c0), (.int (p2.toUInt32.toUInt16.toUInt32.toInt32)), (.int c2), (.int c3)] (.int (0 : Int32)) := Arv.set Ar12 q12 S12 M12 H12 G12 (fits_nar_char _) W13 1 rfl (Nat.le_of_ble_eq_true rfl)
  have N13 := Fr.snoc X13 N9 g_t
  have K13 : Keep h0 h13 [a1, t] := (Keep.refl h0 [a1, t]).wr W13 (Or.inl (List.mem_of_getElem? (i := 1) rfl))
  show WP p e below _ (T13.setTop (mkF m 44 #[.val (.ref a1), .val (.int p2), .val (.int (1 : Int32))] []))
  refine own_go (fun t_ k => XS.aloadN X13.here hx rfl (hb hby d5_44) rfl rfl k) ?_
  show WP p e below _ (T13.setTop (mkF m 45 #[.val (.ref a1), .val (.int p2), .val (.int (1 : Int32))] [(.ref a1)]))
  refine own_go (fun t_ k => XS.iloadN X13.here hx rfl (hb hby d5_45) rfl k) ?_
  show WP p e below _ (T13.setTop (mkF m 46 #[.val (.ref a1), .val (.int p2), .val (.int (1 : Int32))] [(.int (1 : Int32)), (.ref a1)]))
  refine own_go (fun t_ k => XS.iconst X13.here hx rfl (hb hby d5_46) k) ?_
  show WP p e below _ (T13.setTop (mkF m 47 #[.val (.ref a1), .val (.int p2), .val (.int (1 : Int32))] [(.int (1 : Int32)), (.int (1 : Int32)), (.ref a1)]))
  refine own_go (fun t_ k => XS.iadd X13.here hx rfl (hb hby d5_47) rfl k) ?_
  show WP p e below _ (T13.setTop (mkF m 48 #[.val (.ref a1), .val (.int p2), .val (.int (1 : Int32))] [(.int (2 : Int32)), (.ref a1)]))
  refine own_go (fun t_ k => XS.i2c X13.here hx rfl (hb hby d5_48) rfl k) ?_
  show WP p e below _ (T13.setTop (mkF m 49 #[.val (.ref a1), .val (.int p2), .val (.int (1 : Int32))] [(.int (2 : Int32)), (.ref a1)]))
  obtain ⟨T14, h14, X14, e14, W14, st14⟩ := putFN X13 hx hZ hown (hw _ (List.mem_of_getElem? (i := 27) rfl)) Via.refl e13 (F_c.other W13 (Or.inl ne_t)) (E_a.wr W13) (Or.inl (hw _ (List.mem_of_getElem? (i := 28) rfl))) (hw _ (List.mem_of_getElem? (i := 7) rfl)) (ty := .char) (v' := (.int (2 : Int32))) (by decide) rfl (by decide) (g := (mkF m 49 #[.val (.ref a1), .val (.int p2), .val (.int (1 : Int32))] [(.int (2 : Int32)), (.ref a1)])) rfl rfl (hb hby d5_49)
  refine own_go st14 ?_
  have Fw14 := (F_c.other W13 (Or.inl ne_t)).same W14
  have N14 := Fr.snoc X14 N13 g_a
  have K14 : Keep h0 h14 [a1, t] := K13.wr W14 (Or.inl (List.mem_of_getElem? (i := 0) rfl))
  show WP p e below _ (T14.setTop (mkF m 52 #[.val (.ref a1), .val (.int p2), .val (.int (1 : Int32))] []))
  refine own_go (fun t_ k => XS.aloadN X14.here hx rfl (hb hby d5_52) rfl rfl k) ?_
  show WP p e below _ (T14.setTop (mkF m 53 #[.val (.ref a1), .val (.int p2), .val (.int (1 : Int32))] [(.ref a1)]))
  exact own_retA X14 hx Bd.notSynchronized Bd.returns rfl rfl (hb hby d5_53) (by rw [e14]; exact ⟨rfl, N14, K14, ⟨((E_a.wr W13).wr W14), ((F_v.other W13 (Or.inl ne_t)).other W14 (Or.inr (slot_ne (Or.inl (hw _ (List.mem_of_getElem? (i := 26) rfl))) (Or.inl (hw _ (List.mem_of_getElem? (i := 28) rfl))) (by decide) (t := (.array .char)) (t' := .char) (by decide) (by decide)))), Fw14, ((F_o.other W13 (Or.inl ne_t)).other W14 (Or.inr (slot_ne (Or.inl (hw _ (List.mem_of_getElem? (i := 23) rfl))) (Or.inl (hw _ (List.mem_of_getElem? (i := 28) rfl))) (by decide) (t := (.array .long)) (t' := .char) (by decide) (by decide)))), ((F_h.other W13 (Or.inl ne_t)).other W14 (Or.inr (slot_ne (Or.inl (hw _ (List.mem_of_getElem? (i := 41) rfl))) (Or.inl (hw _ (List.mem_of_getElem? (i := 28) rfl))) (by decide) (t := .boolean) (t' := .char) (by decide) (by decide)))), (V13.other W14 (Ne.symm ne_t)), ((V_u.other W13 ne_ut).other W14 ne_u), ne_t, ne_u, ne_ut⟩⟩) (by decide) (by decide)
def Q_rm_a2 (Z : State) (a1 : Addr) (p2 : Int32) (t : Addr) (k : ClassId) (u : Addr) (ku : ClassId) (c0 : Int32) (c1 : Int32) (c2 : Int32) (c3 : Int32) (h0 : Heap) (n0 : Nat) (v : Option Value) (h : Heap) (L : List Loc) : Prop := v = some (.ref a1) ∧ Fr n0 L ∧ Keep h0 h [a1, t] ∧ AC Z h a1 t k u ku (3 : Int32) c0 c1 (p2.toUInt32.toUInt16.toUInt32.toInt32) c3
theorem ef_rm_a2 (m : MethodId) (x0 : Addr) (x1 : Int32) : entryFrame m #[(.ref x0), (.int x1)] 3 = mkF m 0 #[.val (.ref x0), .val (.int x1), .unset] [] := by first | (simp [entryFrame, mkF, argsToLocals, Value.category]; done) | rfl
set_option maxRecDepth 65536 in
set_option maxHeartbeats 40000000 in
theorem rm_a2 (l : Launch) (Z : State) (a0 : Array Value) (hw : ∀ d ∈ tables_1, d.before a0 Z = true) (ws : List Jvm.Cond) (a1 : Addr) (p2 : Int32) (t : Addr) (k : ClassId) (u : Addr) (ku : ClassId) (c0 : Int32) (c1 : Int32) (c2 : Int32) (c3 : Int32) (h0 : Heap) (n0 : Nat) (G : AC Z h0 a1 t k u ku (2 : Int32) c0 c1 c2 c3) (g_a : n0 ≤ a1) (g_t : n0 ≤ t) (hlt : c1 < p2) :
    MetFree l (⟨"com/example/cairn/cairn/ArrayContainer", "add", "(C)Lcom/example/cairn/cairn/Container;"⟩ : MethodName) (head1 (Jvm.Cond.code (⟨"com/example/cairn/cairn/ArrayContainer", "add", "(C)Lcom/example/cairn/cairn/Container;"⟩ : MethodName) prog_3_method_9_code 3 (some (.object "com/example/cairn/cairn/Container")) :: ws) ({ frames := 1, cells := 0, slots := 0, locals := 12 } : Room)) (fun a U => a = #[(.ref a1), (.int p2)] ∧ Z.Warmed39 U.vm ∧ U.heap = h0) (fun _ _ _ _ _ => True) (fun _ U o U' => ∃ v L, o = .returned v ∧ (Q_rm_a2 Z a1 p2 t k u ku c0 c1 c2 c3 h0 n0) v U'.heap L ∧ FrameEnd U o U' L ({ frames := 1, cells := 0, slots := 0, locals := 12 } : Room).cells ({ frames := 1, cells := 0, slots := 0, locals := 12 } : Room).slots) := by
  refine MetFree.of_bodySF (plainFor_of_name pn_2) hisR ?_
  intro p e s m args below meth c s₁ Bd hml0 hP hK
  obtain ⟨rfl, hZ, hh⟩ := hP
  have hx := Bd.exec
  have hby := Bd.bytes
  have hml : c.maxLocals = 3 := hml0
  have hown : s.vm.findClass "com/example/cairn/cairn/ArrayContainer" = some m.cls := findClass_of_methodNamed Bd.named
  have hnm := (name_of_methodNamed Bd.named Bd.method).1
  have X0 : Stand p l e ({ frames := 1, cells := 0, slots := 0, locals := 12 } : Room) s m #[(.ref a1), (.int p2)] below meth c s₁ [] 0 0 := Stand.of_body Bd
  have e0 : s₁.heap = h0 := by rw [← hh, Bd.state]; rfl
  have N0 := Fr.nil n0
  show WP p e below (GG (Q_rm_a2 Z a1 p2 t k u ku c0 c1 c2 c3 h0 n0) s ({ frames := 1, cells := 0, slots := 0, locals := 12 } : Room).cells ({ frames := 1, cells := 0, slots := 0, locals := 12 } : Room).slots) (s₁.setTop (entryFrame m #[(.ref a1), (.int p2)] 3))
  rw [ef_rm_a2 m a1 p2]
  obtain ⟨E_a, F_v, F_c, F_o, F_h, V_t, V_u, ne_t, ne_u, ne_ut⟩ := id G
  show WP p e below _ (s₁.setTop (mkF m 0 #[.val (.ref a1), .val (.int p2), .unset] []))
  refine own_go (fun t_ k => XS.aloadN X0.here hx rfl (hb hby d5_0) rfl rfl k) ?_
  show WP p e below _ (s₁.setTop (mkF m 1 #[.val (.ref a1), .val (.int p2), .unset] [(.ref a1)]))
  obtain ⟨T1, X1, e1, st1⟩ := getF X0 hx hZ hown (host := "") (Or.inl (hw _ (List.mem_of_getElem? (i := 27) rfl))) Via.refl e0 F_c (g := (mkF m 1 #[.val (.ref a1), .val (.int p2), .unset] [(.ref a1)])) rfl rfl (hb hby d5_1)
  refine own_go st1 ?_
  show WP p e below _ (T1.setTop (mkF m 4 #[.val (.ref a1), .val (.int p2), .unset] [(.int (2 : Int32))]))
  refine own_go (fun t_ k => XS.istoreN X1.here hx rfl (hb hby d5_4) rfl (l' := #[.val (.ref a1), .val (.int p2), .val (.int (2 : Int32))]) rfl k) ?_
  show WP p e below _ (T1.setTop (mkF m 5 #[.val (.ref a1), .val (.int p2), .val (.int (2 : Int32))] []))
  refine own_go (fun t_ k => XS.iloadN X1.here hx rfl (hb hby d5_5) rfl k) ?_
  show WP p e below _ (T1.setTop (mkF m 6 #[.val (.ref a1), .val (.int p2), .val (.int (2 : Int32))] [(.int (2 : Int32))]))
  have hc6_2 : ((0 : Int32) < (2 : Int32)) := by decide
  refine own_go (fun t_ k => XS.ifNo X1.here hx rfl (hb hby d5_6) rfl ((if0 _ _).trans (tlt hc6_2).2.2.2) k) ?_
  show WP p e below _ (T1.setTop (mkF m 9 #[.val (.ref a1), .val (.int p2), .val (.int (2 : Int32))] []))
  refine own_go (fun t_ k => XS.iloadN X1.here hx rfl (hb hby d5_9) rfl k) ?_
  show WP p e below _ (T1.setTop (mkF m 10 #[.val (.ref a1), .val (.int p2), .val (.int (2 : Int32))] [(.int (2 : Int32))]))
  refine own_go (fun t_ k => XS.aloadN X1.here hx rfl (hb hby d5_10) rfl rfl k) ?_
  show WP p e below _ (T1.setTop (mkF m 11 #[.val (.ref a1), .val (.int p2), .val (.int (2 : Int32))] [(.ref a1), (.int (2 : Int32))]))
  obtain ⟨T3, X3, e3, st3⟩ := getF X1 hx hZ hown (host := "") (Or.inl (hw _ (List.mem_of_getElem? (i := 25) rfl))) Via.refl e1 F_v (g := (mkF m 11 #[.val (.ref a1), .val (.int p2), .val (.int (2 : Int32))] [(.ref a1), (.int (2 : Int32))])) rfl rfl (hb hby d5_11)
  refine own_go st3 ?_
  show WP p e below _ (T3.setTop (mkF m 14 #[.val (.ref a1), .val (.int p2), .val (.int (2 : Int32))] [(.ref t), (.int (2 : Int32))]))
  obtain ⟨cl4, Ar4, -, S4, M4, -, -⟩ := id (V_t)
  refine own_go (fun t_ k => X3.arraylength hx (by rw [e3]; exact Ar4.1) (State.isArrayOf_alike hZ.alike Ar4.2.1) (g := (mkF m 14 #[.val (.ref a1), .val (.int p2), .val (.int (2 : Int32))] [(.ref t), (.int (2 : Int32))])) rfl rfl (hb hby d5_14) _ (by rw [len_of S4 M4]; exact k)) ?_
  show WP p e below _ (T3.setTop (mkF m 15 #[.val (.ref a1), .val (.int p2), .val (.int (2 : Int32))] [(.int (4 : Int32)), (.int (2 : Int32))]))
  have hc15_5 : ((2 : Int32) < (4 : Int32)) := by decide
  refine own_go (fun t_ k => XS.icmpNo X3.here hx rfl (hb hby d5_15) rfl (tlt hc15_5).2.1 k) ?_
  show WP p e below _ (T3.setTop (mkF m 18 #[.val (.ref a1), .val (.int p2), .val (.int (2 : Int32))] []))
  refine own_go (fun t_ k => XS.iloadN X3.here hx rfl (hb hby d5_18) rfl k) ?_
  show WP p e below _ (T3.setTop (mkF m 19 #[.val (.ref a1), .val (.int p2), .val (.int (2 : Int32))] [(.int p2)]))
  refine own_go (fun t_ k => XS.aloadN X3.here hx rfl (hb hby d5_19) rfl rfl k) ?_
  show WP p e below _ (T3.setTop (mkF m 20 #[.val (.ref a1), .val (.int p2), .val (.int (2 : Int32))] [(.ref a1), (.int p2)]))
  obtain ⟨T6, X6, e6, st6⟩ := getF X3 hx hZ hown (host := "") (Or.inl (hw _ (List.mem_of_getElem? (i := 25) rfl))) Via.refl e3 F_v (g := (mkF m 20 #[.val (.ref a1), .val (.int p2), .val (.int (2 : Int32))] [(.ref a1), (.int p2)])) rfl rfl (hb hby d5_20)
  refine own_go st6 ?_
  show WP p e below _ (T6.setTop (mkF m 23 #[.val (.ref a1), .val (.int p2), .val (.int (2 : Int32))] [(.ref t), (.int p2)]))
  refine own_go (fun t_ k => XS.iloadN X6.here hx rfl (hb hby d5_23) rfl k) ?_
  show WP p e below _ (T6.setTop (mkF m 24 #[.val (.ref a1), .val (.int p2), .val (.int (2 : Int32))] [(.int (2 : Int32)), (.ref t), (.int p2)]))
  refine own_go (fun t_ k => XS.iconst X6.here hx rfl (hb hby d5_24) k) ?_
  show WP p e below _ (T6.setTop (mkF m 25 #[.val (.ref a1), .val (.int p2), .val (.int (2 : Int32))] [(.int (1 : Int32)), (.int (2 : Int32)), (.ref t), (.int p2)]))
  refine own_go (fun t_ k => XS.isub X6.here hx rfl (hb hby d5_25) rfl k) ?_
  show WP p e below _ (T6.setTop (mkF m 26 #[.val (.ref a1), .val (.int p2), .val (.int (2 : Int32))] [(.int (1 : Int32)), (.ref t), (.int p2)]))
  obtain ⟨cl7, Ar7, -, S7, M7, H7, -⟩ := id (V_t)
  have hin7 : ¬ ((1 : Int32) < 0 ∨ cl7.slots.size ≤ ((1 : Int32)).toNatClampNeg) := inb_of S7 (⟨by decide, by decide⟩)
  refine own_go (fun t_ k => X6.caload hx (j := (1 : Int32)) (v := (.int c1)) (by rw [e6]; exact Ar7.1) (State.isArrayOf_alike hZ.alike Ar7.2.1) Ar7.2.2 hin7 (H7.at hin7 rfl) (g := (mkF m 26 #[.val (.ref a1), .val (.int p2), .val (.int (2 : Int32))] [(.int (1 : Int32)), (.ref t), (.int p2)])) rfl rfl (hb hby d5_26) _ k) ?_
  show WP p e below _ (T6.setTop (mkF m 27 #[.val (.ref a1), .val (.int p2), .val (.int (2 : Int32))] [(.int c1), (.int p2)]))
  have hc27_8 : (c1 < p2) := hlt
  refine own_go (fun t_ k => XS.icmpNo X6.here hx rfl (hb hby d5_27) rfl (tlt hc27_8).2.2.2 k) ?_
  show WP p e below _ (T6.setTop (mkF m 30 #[.val (.ref a1), .val (.int p2), .val (.int (2 : Int32))] []))
  refine own_go (fun t_ k => XS.aloadN X6.here hx rfl (hb hby d5_30) rfl rfl k) ?_
  show WP p e below _ (T6.setTop (mkF m 31 #[.val (.ref a1), .val (.int p2), .val (.int (2 : Int32))] [(.ref a1)]))
  obtain ⟨cq9, kq9, q9a, q9b, q9c⟩ := isOf (T := T6) hZ e6 E_a
  obtain ⟨_, _, ⟨T9, L9, k9, n9⟩, -, X9, ⟨Lc9, hQ9, l9, y9, z9⟩, st9⟩ := X6.virtualBackUp hx (x := (⟨"com/example/cairn/cairn/ArrayContainer", "isShared", "()Z"⟩ : MethodName)) (y := (⟨"com/example/cairn/cairn/Container", "isShared", "()Z"⟩ : MethodName)) (owner := "com/example/cairn/cairn/Container") hown (mvT hZ (hw _ (List.mem_of_getElem? (i := 34) rfl))) (mvT hZ (hw _ (List.mem_of_getElem? (i := 35) rfl))) (mvT hZ (hw _ (List.mem_of_getElem? (i := 36) rfl))) (by decide) (mvT hZ (hw _ (List.mem_of_getElem? (i := 38) rfl))) (mvT hZ (hw _ (List.mem_of_getElem? (i := 37) rfl))) (backOf (W := 0) (rm_sh l Z a0 hw [] a1 h0 n0 F_h) hZ (hw _ (List.mem_of_getElem? (i := 39) rfl)) (hw _ (List.mem_of_getElem? (i := 15) rfl)) (by decide) (by decide)) q9a q9c (g := (mkF m 31 #[.val (.ref a1), .val (.int p2), .val (.int (2 : Int32))] [(.ref a1)])) rfl (by rw [hml]; rfl) (Steps.refl _) (argsL := []) (rest := []) (lenOf pd_1 rfl) rfl (by show 2 * 0 + _ ≤ _; exact Nat.le_of_eq rfl) (hb hby d5_31) (fun _ _ => ⟨rfl, e6, (by decide : 0 + 0 ≤ _), (by decide : 0 + 0 ≤ _)⟩)
  dsimp only [Pt.U, Pt.locs, Pt.cells, Pt.slots] at X9 l9 y9 z9 st9 hQ9
  subst l9 y9 z9
  obtain ⟨rfl, N9q, e9⟩ := hQ9
  have N9 := Fr.app N0 N9q
  replace X9 : Stand p l e ({ frames := 1, cells := 0, slots := 0, locals := 12 } : Room) s m _ below meth c T9 _ 0 0 := X9
  refine own_go (fun t_ k => st9.trans k) ?_
  show WP p e below _ (T9.setTop (mkF m 34 #[.val (.ref a1), .val (.int p2), .val (.int (2 : Int32))] [(.int (0 : Int32))]))
  have hc34_10 : ((0 : Int32) = (0 : Int32)) := by decide
  refine own_go (fun t_ k => XS.ifNo X9.here hx rfl (hb hby d5_34) rfl ((if0 _ _).trans (teq hc34_10).2) k) ?_
  show WP p e below _ (T9.setTop (mkF m 37 #[.val (.ref a1), .val (.int p2), .val (.int (2 : Int32))] []))
  refine own_go (fun t_ k => XS.aloadN X9.here hx rfl (hb hby d5_37) rfl rfl k) ?_
  show WP p e below _ (T9.setTop (mkF m 38 #[.val (.ref a1), .val (.int p2), .val (.int (2 : Int32))] [(.ref a1)]))
  obtain ⟨T11, X11, e11, st11⟩ := getF X9 hx hZ hown (host := "") (Or.inl (hw _ (List.mem_of_getElem? (i := 25) rfl))) Via.refl e9 F_v (g := (mkF m 38 #[.val (.ref a1), .val (.int p2), .val (.int (2 : Int32))] [(.ref a1)])) rfl rfl (hb hby d5_38)
  refine own_go st11 ?_
  show WP p e below _ (T11.setTop (mkF m 41 #[.val (.ref a1), .val (.int p2), .val (.int (2 : Int32))] [(.ref t)]))
  refine own_go (fun t_ k => XS.iloadN X11.here hx rfl (hb hby d5_41) rfl k) ?_
  show WP p e below _ (T11.setTop (mkF m 42 #[.val (.ref a1), .val (.int p2), .val (.int (2 : Int32))] [(.int (2 : Int32)), (.ref t)]))
  refine own_go (fun t_ k => XS.iloadN X11.here hx rfl (hb hby d5_42) rfl k) ?_
  show WP p e below _ (T11.setTop (mkF m 43 #[.val (.ref a1), .val (.int p2), .val (.int (2 : Int32))] [(.int p2), (.int (2 : Int32)), (.ref t)]))
  obtain ⟨cl12, Ar12, q12, S12, M12, H12, G12⟩ := id (V_t)
  have hin12 : ¬ ((2 : Int32) < 0 ∨ cl12.slots.size ≤ ((2 : Int32)).toNatClampNeg) := inb_of S12 (⟨by decide, by decide⟩)
  obtain ⟨T13, h13, X13, e13, W13, st13⟩ := stC X11 hx hZ e11 Ar12 (j := (2 : Int32)) hin12 (g := (mkF m 43 #[.val (.ref a1), .val (.int p2), .val (.int (2 : Int32))] [(.int p2), (.int (2 : Int32)), (.ref t)])) rfl rfl (hb hby d5_43)
  refine own_go st13 ?_
  have V13 : Arv Z h13 t k .char (4 : Int32) [(.int c0), (.int c1), (.int (p2.toUInt32.toUInt16.toUInt32.toInt32)), (.int c3)] (.int (0 : Int32)) := Arv.set Ar12 q12 S12 M12 H12 G12 (fits_nar_char _) W13 2 rfl (Nat.le_of_ble_eq_true rfl)
  have N13 := Fr.snoc X13 N9 g_t
  have K13 : Keep h0 h13 [a1, t] := (Keep.refl h0 [a1, t]).wr W13 (Or.inl (List.mem_of_getElem? (i := 1) rfl))
  show WP p e below _ (T13.setTop (mkF m 44 #[.val (.ref a1), .val (.int p2), .val (.int (2 : Int32))] []))
  refine own_go (fun t_ k => XS.aloadN X13.here hx rfl (hb hby d5_44) rfl rfl k) ?_
  show WP p e below _ (T13.setTop (mkF m 45 #[.val (.ref a1), .val (.int p2), .val (.int (2 : Int32))] [(.ref a1)]))
  refine own_go (fun t_ k => XS.iloadN X13.here hx rfl (hb hby d5_45) rfl k) ?_
  show WP p e below _ (T13.setTop (mkF m 46 #[.val (.ref a1), .val (.int p2), .val (.int (2 : Int32))] [(.int (2 : Int32)), (.ref a1)]))
  refine own_go (fun t_ k => XS.iconst X13.here hx rfl (hb hby d5_46) k) ?_
  show WP p e below _ (T13.setTop (mkF m 47 #[.val (.ref a1), .val (.int p2), .val (.int (2 : Int32))] [(.int (1 : Int32)), (.int (2 : Int32)), (.ref a1)]))
  refine own_go (fun t_ k => XS.iadd X13.here hx rfl (hb hby d5_47) rfl k) ?_
  show WP p e below _ (T13.setTop (mkF m 48 #[.val (.ref a1), .val (.int p2), .val (.int (2 : Int32))] [(.int (3 : Int32)), (.ref a1)]))
  refine own_go (fun t_ k => XS.i2c X13.here hx rfl (hb hby d5_48) rfl k) ?_
  show WP p e below _ (T13.setTop (mkF m 49 #[.val (.ref a1), .val (.int p2), .val (.int (2 : Int32))] [(.int (3 : Int32)), (.ref a1)]))
  obtain ⟨T14, h14, X14, e14, W14, st14⟩ := putFN X13 hx hZ hown (hw _ (List.mem_of_getElem? (i := 27) rfl)) Via.refl e13 (F_c.other W13 (Or.inl ne_t)) (E_a.wr W13) (Or.inl (hw _ (List.mem_of_getElem? (i := 28) rfl))) (hw _ (List.mem_of_getElem? (i := 7) rfl)) (ty := .char) (v' := (.int (3 : Int32))) (by decide) rfl (by decide) (g := (mkF m 49 #[.val (.ref a1), .val (.int p2), .val (.int (2 : Int32))] [(.int (3 : Int32)), (.ref a1)])) rfl rfl (hb hby d5_49)
  refine own_go st14 ?_
  have Fw14 := (F_c.other W13 (Or.inl ne_t)).same W14
  have N14 := Fr.snoc X14 N13 g_a
  have K14 : Keep h0 h14 [a1, t] := K13.wr W14 (Or.inl (List.mem_of_getElem? (i := 0) rfl))
  show WP p e below _ (T14.setTop (mkF m 52 #[.val (.ref a1), .val (.int p2), .val (.int (2 : Int32))] []))
  refine own_go (fun t_ k => XS.aloadN X14.here hx rfl (hb hby d5_52) rfl rfl k) ?_
  show WP p e below _ (T14.setTop (mkF m 53 #[.val (.ref a1), .val (.int p2), .val (.int (2 : Int32))] [(.ref a1)]))
  exact own_retA X14 hx Bd.notSynchronized Bd.returns rfl rfl (hb hby d5_53) (by rw [e14]; exact ⟨rfl, N14, K14, ⟨((E_a.wr W13).wr W14), ((F_v.other W13 (Or.inl ne_t)).other W14 (Or.inr (slot_ne (Or.inl (hw _ (List.mem_of_getElem? (i := 26) rfl))) (Or.inl (hw _ (List.mem_of_getElem? (i := 28) rfl))) (by decide) (t := (.array .char)) (t' := .char) (by decide) (by decide)))), Fw14, ((F_o.other W13 (Or.inl ne_t)).other W14 (Or.inr (slot_ne (Or.inl (hw _ (List.mem_of_getElem? (i := 23) rfl))) (Or.inl (hw _ (List.mem_of_getElem? (i := 28) rfl))) (by decide) (t := (.array .long)) (t' := .char) (by decide) (by decide)))), ((F_h.other W13 (Or.inl ne_t)).other W14 (Or.inr (slot_ne (Or.inl (hw _ (List.mem_of_getElem? (i := 41) rfl))) (Or.inl (hw _ (List.mem_of_getElem? (i := 28) rfl))) (by decide) (t := .boolean) (t' := .char) (by decide) (by decide)))), (V13.other W14 (Ne.symm ne_t)), ((V_u.other W13 ne_ut).other W14 ne_u), ne_t, ne_u, ne_ut⟩⟩) (by decide) (by decide)
def Q_rm_a3 (Z : State) (a1 : Addr) (p2 : Int32) (t : Addr) (k : ClassId) (u : Addr) (ku : ClassId) (c0 : Int32) (c1 : Int32) (c2 : Int32) (c3 : Int32) (h0 : Heap) (n0 : Nat) (v : Option Value) (h : Heap) (L : List Loc) : Prop := v = some (.ref a1) ∧ Fr n0 L ∧ Keep h0 h [a1, t] ∧ AC Z h a1 t k u ku (4 : Int32) c0 c1 c2 (p2.toUInt32.toUInt16.toUInt32.toInt32)
theorem ef_rm_a3 (m : MethodId) (x0 : Addr) (x1 : Int32) : entryFrame m #[(.ref x0), (.int x1)] 3 = mkF m 0 #[.val (.ref x0), .val (.int x1), .unset] [] := by first | (simp [entryFrame, mkF, argsToLocals, Value.category]; done) | rfl
set_option maxRecDepth 65536 in
set_option maxHeartbeats 40000000 in
theorem rm_a3 (l : Launch) (Z : State) (a0 : Array Value) (hw : ∀ d ∈ tables_1, d.before a0 Z = true) (ws : List Jvm.Cond) (a1 : Addr) (p2 : Int32) (t : Addr) (k : ClassId) (u : Addr) (ku : ClassId) (c0 : Int32) (c1 : Int32) (c2 : Int32) (c3 : Int32) (h0 : Heap) (n0 : Nat) (G : AC Z h0 a1 t k u ku (3 : Int32) c0 c1 c2 c3) (g_a : n0 ≤ a1) (g_t : n0 ≤ t) (hlt : c2 < p2) :
    MetFree l (⟨"com/example/cairn/cairn/ArrayContainer", "add", "(C)Lcom/example/cairn/cairn/Container;"⟩ : MethodName) (head1 (Jvm.Cond.code (⟨"com/example/cairn/cairn/ArrayContainer", "add", "(C)Lcom/example/cairn/cairn/Container;"⟩ : MethodName) prog_3_method_9_code 3 (some (.object "com/example/cairn/cairn/Container")) :: ws) ({ frames := 1, cells := 0, slots := 0, locals := 12 } : Room)) (fun a U => a = #[(.ref a1), (.int p2)] ∧ Z.Warmed39 U.vm ∧ U.heap = h0) (fun _ _ _ _ _ => True) (fun _ U o U' => ∃ v L, o = .returned v ∧ (Q_rm_a3 Z a1 p2 t k u ku c0 c1 c2 c3 h0 n0) v U'.heap L ∧ FrameEnd U o U' L ({ frames := 1, cells := 0, slots := 0, locals := 12 } : Room).cells ({ frames := 1, cells := 0, slots := 0, locals := 12 } : Room).slots) := by
  refine MetFree.of_bodySF (plainFor_of_name pn_2) hisR ?_
  intro p e s m args below meth c s₁ Bd hml0 hP hK
  obtain ⟨rfl, hZ, hh⟩ := hP
  have hx := Bd.exec
  have hby := Bd.bytes
  have hml : c.maxLocals = 3 := hml0
  have hown : s.vm.findClass "com/example/cairn/cairn/ArrayContainer" = some m.cls := findClass_of_methodNamed Bd.named
  have hnm := (name_of_methodNamed Bd.named Bd.method).1
  have X0 : Stand p l e ({ frames := 1, cells := 0, slots := 0, locals := 12 } : Room) s m #[(.ref a1), (.int p2)] below meth c s₁ [] 0 0 := Stand.of_body Bd
  have e0 : s₁.heap = h0 := by rw [← hh, Bd.state]; rfl
  have N0 := Fr.nil n0
  show WP p e below (GG (Q_rm_a3 Z a1 p2 t k u ku c0 c1 c2 c3 h0 n0) s ({ frames := 1, cells := 0, slots := 0, locals := 12 } : Room).cells ({ frames := 1, cells := 0, slots := 0, locals := 12 } : Room).slots) (s₁.setTop (entryFrame m #[(.ref a1), (.int p2)] 3))
  rw [ef_rm_a3 m a1 p2]
  obtain ⟨E_a, F_v, F_c, F_o, F_h, V_t, V_u, ne_t, ne_u, ne_ut⟩ := id G
  show WP p e below _ (s₁.setTop (mkF m 0 #[.val (.ref a1), .val (.int p2), .unset] []))
  refine own_go (fun t_ k => XS.aloadN X0.here hx rfl (hb hby d5_0) rfl rfl k) ?_
  show WP p e below _ (s₁.setTop (mkF m 1 #[.val (.ref a1), .val (.int p2), .unset] [(.ref a1)]))
  obtain ⟨T1, X1, e1, st1⟩ := getF X0 hx hZ hown (host := "") (Or.inl (hw _ (List.mem_of_getElem? (i := 27) rfl))) Via.refl e0 F_c (g := (mkF m 1 #[.val (.ref a1), .val (.int p2), .unset] [(.ref a1)])) rfl rfl (hb hby d5_1)
  refine own_go st1 ?_
  show WP p e below _ (T1.setTop (mkF m 4 #[.val (.ref a1), .val (.int p2), .unset] [(.int (3 : Int32))]))
  refine own_go (fun t_ k => XS.istoreN X1.here hx rfl (hb hby d5_4) rfl (l' := #[.val (.ref a1), .val (.int p2), .val (.int (3 : Int32))]) rfl k) ?_
  show WP p e below _ (T1.setTop (mkF m 5 #[.val (.ref a1), .val (.int p2), .val (.int (3 : Int32))] []))
  refine own_go (fun t_ k => XS.iloadN X1.here hx rfl (hb hby d5_5) rfl k) ?_
  show WP p e below _ (T1.setTop (mkF m 6 #[.val (.ref a1), .val (.int p2), .val (.int (3 : Int32))] [(.int (3 : Int32))]))
  have hc6_2 : ((0 : Int32) < (3 : Int32)) := by decide
  refine own_go (fun t_ k => XS.ifNo X1.here hx rfl (hb hby d5_6) rfl ((if0 _ _).trans (tlt hc6_2).2.2.2) k) ?_
  show WP p e below _ (T1.setTop (mkF m 9 #[.val (.ref a1), .val (.int p2), .val (.int (3 : Int32))] []))
  refine own_go (fun t_ k => XS.iloadN X1.here hx rfl (hb hby d5_9) rfl k) ?_
  show WP p e below _ (T1.setTop (mkF m 10 #[.val (.ref a1), .val (.int p2), .val (.int (3 : Int32))] [(.int (3 : Int32))]))
  refine own_go (fun t_ k => XS.aloadN X1.here hx rfl (hb hby d5_10) rfl rfl k) ?_
  show WP p e below _ (T1.setTop (mkF m 11 #[.val (.ref a1), .val (.int p2), .val (.int (3 : Int32))] [(.ref a1), (.int (3 : Int32))]))
  obtain ⟨T3, X3, e3, st3⟩ := getF X1 hx hZ hown (host := "") (Or.inl (hw _ (List.mem_of_getElem? (i := 25) rfl))) Via.refl e1 F_v (g := (mkF m 11 #[.val (.ref a1), .val (.int p2), .val (.int (3 : Int32))] [(.ref a1), (.int (3 : Int32))])) rfl rfl (hb hby d5_11)
  refine own_go st3 ?_
  show WP p e below _ (T3.setTop (mkF m 14 #[.val (.ref a1), .val (.int p2), .val (.int (3 : Int32))] [(.ref t), (.int (3 : Int32))]))
  obtain ⟨cl4, Ar4, -, S4, M4, -, -⟩ := id (V_t)
  refine own_go (fun t_ k => X3.arraylength hx (by rw [e3]; exact Ar4.1) (State.isArrayOf_alike hZ.alike Ar4.2.1) (g := (mkF m 14 #[.val (.ref a1), .val (.int p2), .val (.int (3 : Int32))] [(.ref t), (.int (3 : Int32))])) rfl rfl (hb hby d5_14) _ (by rw [len_of S4 M4]; exact k)) ?_
  show WP p e below _ (T3.setTop (mkF m 15 #[.val (.ref a1), .val (.int p2), .val (.int (3 : Int32))] [(.int (4 : Int32)), (.int (3 : Int32))]))
  have hc15_5 : ((3 : Int32) < (4 : Int32)) := by decide
  refine own_go (fun t_ k => XS.icmpNo X3.here hx rfl (hb hby d5_15) rfl (tlt hc15_5).2.1 k) ?_
  show WP p e below _ (T3.setTop (mkF m 18 #[.val (.ref a1), .val (.int p2), .val (.int (3 : Int32))] []))
  refine own_go (fun t_ k => XS.iloadN X3.here hx rfl (hb hby d5_18) rfl k) ?_
  show WP p e below _ (T3.setTop (mkF m 19 #[.val (.ref a1), .val (.int p2), .val (.int (3 : Int32))] [(.int p2)]))
  refine own_go (fun t_ k => XS.aloadN X3.here hx rfl (hb hby d5_19) rfl rfl k) ?_
  show WP p e below _ (T3.setTop (mkF m 20 #[.val (.ref a1), .val (.int p2), .val (.int (3 : Int32))] [(.ref a1), (.int p2)]))
  obtain ⟨T6, X6, e6, st6⟩ := getF X3 hx hZ hown (host := "") (Or.inl (hw _ (List.mem_of_getElem? (i := 25) rfl))) Via.refl e3 F_v (g := (mkF m 20 #[.val (.ref a1), .val (.int p2), .val (.int (3 : Int32))] [(.ref a1), (.int p2)])) rfl rfl (hb hby d5_20)
  refine own_go st6 ?_
  show WP p e below _ (T6.setTop (mkF m 23 #[.val (.ref a1), .val (.int p2), .val (.int (3 : Int32))] [(.ref t), (.int p2)]))
  refine own_go (fun t_ k => XS.iloadN X6.here hx rfl (hb hby d5_23) rfl k) ?_
  show WP p e below _ (T6.setTop (mkF m 24 #[.val (.ref a1), .val (.int p2), .val (.int (3 : Int32))] [(.int (3 : Int32)), (.ref t), (.int p2)]))
  refine own_go (fun t_ k => XS.iconst X6.here hx rfl (hb hby d5_24) k) ?_
  show WP p e below _ (T6.setTop (mkF m 25 #[.val (.ref a1), .val (.int p2), .val (.int (3 : Int32))] [(.int (1 : Int32)), (.int (3 : Int32)), (.ref t), (.int p2)]))
  refine own_go (fun t_ k => XS.isub X6.here hx rfl (hb hby d5_25) rfl k) ?_
  show WP p e below _ (T6.setTop (mkF m 26 #[.val (.ref a1), .val (.int p2), .val (.int (3 : Int32))] [(.int (2 : Int32)), (.ref t), (.int p2)]))
  obtain ⟨cl7, Ar7, -, S7, M7, H7, -⟩ := id (V_t)
  have hin7 : ¬ ((2 : Int32) < 0 ∨ cl7.slots.size ≤ ((2 : Int32)).toNatClampNeg) := inb_of S7 (⟨by decide, by decide⟩)
  refine own_go (fun t_ k => X6.caload hx (j := (2 : Int32)) (v := (.int c2)) (by rw [e6]; exact Ar7.1) (State.isArrayOf_alike hZ.alike Ar7.2.1) Ar7.2.2 hin7 (H7.at hin7 rfl) (g := (mkF m 26 #[.val (.ref a1), .val (.int p2), .val (.int (3 : Int32))] [(.int (2 : Int32)), (.ref t), (.int p2)])) rfl rfl (hb hby d5_26) _ k) ?_
  show WP p e below _ (T6.setTop (mkF m 27 #[.val (.ref a1), .val (.int p2), .val (.int (3 : Int32))] [(.int c2), (.int p2)]))
  have hc27_8 : (c2 < p2) := hlt
  refine own_go (fun t_ k => XS.icmpNo X6.here hx rfl (hb hby d5_27) rfl (tlt hc27_8).2.2.2 k) ?_
  show WP p e below _ (T6.setTop (mkF m 30 #[.val (.ref a1), .val (.int p2), .val (.int (3 : Int32))] []))
  refine own_go (fun t_ k => XS.aloadN X6.here hx rfl (hb hby d5_30) rfl rfl k) ?_
  show WP p e below _ (T6.setTop (mkF m 31 #[.val (.ref a1), .val (.int p2), .val (.int (3 : Int32))] [(.ref a1)]))
  obtain ⟨cq9, kq9, q9a, q9b, q9c⟩ := isOf (T := T6) hZ e6 E_a
  obtain ⟨_, _, ⟨T9, L9, k9, n9⟩, -, X9, ⟨Lc9, hQ9, l9, y9, z9⟩, st9⟩ := X6.virtualBackUp hx (x := (⟨"com/example/cairn/cairn/ArrayContainer", "isShared", "()Z"⟩ : MethodName)) (y := (⟨"com/example/cairn/cairn/Container", "isShared", "()Z"⟩ : MethodName)) (owner := "com/example/cairn/cairn/Container") hown (mvT hZ (hw _ (List.mem_of_getElem? (i := 34) rfl))) (mvT hZ (hw _ (List.mem_of_getElem? (i := 35) rfl))) (mvT hZ (hw _ (List.mem_of_getElem? (i := 36) rfl))) (by decide) (mvT hZ (hw _ (List.mem_of_getElem? (i := 38) rfl))) (mvT hZ (hw _ (List.mem_of_getElem? (i := 37) rfl))) (backOf (W := 0) (rm_sh l Z a0 hw [] a1 h0 n0 F_h) hZ (hw _ (List.mem_of_getElem? (i := 39) rfl)) (hw _ (List.mem_of_getElem? (i := 15) rfl)) (by decide) (by decide)) q9a q9c (g := (mkF m 31 #[.val (.ref a1), .val (.int p2), .val (.int (3 : Int32))] [(.ref a1)])) rfl (by rw [hml]; rfl) (Steps.refl _) (argsL := []) (rest := []) (lenOf pd_1 rfl) rfl (by show 2 * 0 + _ ≤ _; exact Nat.le_of_eq rfl) (hb hby d5_31) (fun _ _ => ⟨rfl, e6, (by decide : 0 + 0 ≤ _), (by decide : 0 + 0 ≤ _)⟩)
  dsimp only [Pt.U, Pt.locs, Pt.cells, Pt.slots] at X9 l9 y9 z9 st9 hQ9
  subst l9 y9 z9
  obtain ⟨rfl, N9q, e9⟩ := hQ9
  have N9 := Fr.app N0 N9q
  replace X9 : Stand p l e ({ frames := 1, cells := 0, slots := 0, locals := 12 } : Room) s m _ below meth c T9 _ 0 0 := X9
  refine own_go (fun t_ k => st9.trans k) ?_
  show WP p e below _ (T9.setTop (mkF m 34 #[.val (.ref a1), .val (.int p2), .val (.int (3 : Int32))] [(.int (0 : Int32))]))
  have hc34_10 : ((0 : Int32) = (0 : Int32)) := by decide
  refine own_go (fun t_ k => XS.ifNo X9.here hx rfl (hb hby d5_34) rfl ((if0 _ _).trans (teq hc34_10).2) k) ?_
  show WP p e below _ (T9.setTop (mkF m 37 #[.val (.ref a1), .val (.int p2), .val (.int (3 : Int32))] []))
  refine own_go (fun t_ k => XS.aloadN X9.here hx rfl (hb hby d5_37) rfl rfl k) ?_
  show WP p e below _ (T9.setTop (mkF m 38 #[.val (.ref a1), .val (.int p2), .val (.int (3 : Int32))] [(.ref a1)]))
  obtain ⟨T11, X11, e11, st11⟩ := getF X9 hx hZ hown (host := "") (Or.inl (hw _ (List.mem_of_getElem? (i := 25) rfl))) Via.refl e9 F_v (g := (mkF m 38 #[.val (.ref a1), .val (.int p2), .val (.int (3 : Int32))] [(.ref a1)])) rfl rfl (hb hby d5_38)
  refine own_go st11 ?_
  show WP p e below _ (T11.setTop (mkF m 41 #[.val (.ref a1), .val (.int p2), .val (.int (3 : Int32))] [(.ref t)]))
  refine own_go (fun t_ k => XS.iloadN X11.here hx rfl (hb hby d5_41) rfl k) ?_
  show WP p e below _ (T11.setTop (mkF m 42 #[.val (.ref a1), .val (.int p2), .val (.int (3 : Int32))] [(.int (3 : Int32)), (.ref t)]))
  refine own_go (fun t_ k => XS.iloadN X11.here hx rfl (hb hby d5_42) rfl k) ?_
  show WP p e below _ (T11.setTop (mkF m 43 #[.val (.ref a1), .val (.int p2), .val (.int (3 : Int32))] [(.int p2), (.int (3 : Int32)), (.ref t)]))
  obtain ⟨cl12, Ar12, q12, S12, M12, H12, G12⟩ := id (V_t)
  have hin12 : ¬ ((3 : Int32) < 0 ∨ cl12.slots.size ≤ ((3 : Int32)).toNatClampNeg) := inb_of S12 (⟨by decide, by decide⟩)
  obtain ⟨T13, h13, X13, e13, W13, st13⟩ := stC X11 hx hZ e11 Ar12 (j := (3 : Int32)) hin12 (g := (mkF m 43 #[.val (.ref a1), .val (.int p2), .val (.int (3 : Int32))] [(.int p2), (.int (3 : Int32)), (.ref t)])) rfl rfl (hb hby d5_43)
  refine own_go st13 ?_
  have V13 : Arv Z h13 t k .char (4 : Int32) [(.int c0), (.int c1), (.int c2), (.int (p2.toUInt32.toUInt16.toUInt32.toInt32))] (.int (0 : Int32)) := Arv.set Ar12 q12 S12 M12 H12 G12 (fits_nar_char _) W13 3 rfl (Nat.le_of_ble_eq_true rfl)
  have N13 := Fr.snoc X13 N9 g_t
  have K13 : Keep h0 h13 [a1, t] := (Keep.refl h0 [a1, t]).wr W13 (Or.inl (List.mem_of_getElem? (i := 1) rfl))
  show WP p e below _ (T13.setTop (mkF m 44 #[.val (.ref a1), .val (.int p2), .val (.int (3 : Int32))] []))
  refine own_go (fun t_ k => XS.aloadN X13.here hx rfl (hb hby d5_44) rfl rfl k) ?_
  show WP p e below _ (T13.setTop (mkF m 45 #[.val (.ref a1), .val (.int p2), .val (.int (3 : Int32))] [(.ref a1)]))
  refine own_go (fun t_ k => XS.iloadN X13.here hx rfl (hb hby d5_45) rfl k) ?_
  show WP p e below _ (T13.setTop (mkF m 46 #[.val (.ref a1), .val (.int p2), .val (.int (3 : Int32))] [(.int (3 : Int32)), (.ref a1)]))
  refine own_go (fun t_ k => XS.iconst X13.here hx rfl (hb hby d5_46) k) ?_
  show WP p e below _ (T13.setTop (mkF m 47 #[.val (.ref a1), .val (.int p2), .val (.int (3 : Int32))] [(.int (1 : Int32)), (.int (3 : Int32)), (.ref a1)]))
  refine own_go (fun t_ k => XS.iadd X13.here hx rfl (hb hby d5_47) rfl k) ?_
  show WP p e below _ (T13.setTop (mkF m 48 #[.val (.ref a1), .val (.int p2), .val (.int (3 : Int32))] [(.int (4 : Int32)), (.ref a1)]))
  refine own_go (fun t_ k => XS.i2c X13.here hx rfl (hb hby d5_48) rfl k) ?_
  show WP p e below _ (T13.setTop (mkF m 49 #[.val (.ref a1), .val (.int p2), .val (.int (3 : Int32))] [(.int (4 : Int32)), (.ref a1)]))
  obtain ⟨T14, h14, X14, e14, W14, st14⟩ := putFN X13 hx hZ hown (hw _ (List.mem_of_getElem? (i := 27) rfl)) Via.refl e13 (F_c.other W13 (Or.inl ne_t)) (E_a.wr W13) (Or.inl (hw _ (List.mem_of_getElem? (i := 28) rfl))) (hw _ (List.mem_of_getElem? (i := 7) rfl)) (ty := .char) (v' := (.int (4 : Int32))) (by decide) rfl (by decide) (g := (mkF m 49 #[.val (.ref a1), .val (.int p2), .val (.int (3 : Int32))] [(.int (4 : Int32)), (.ref a1)])) rfl rfl (hb hby d5_49)
  refine own_go st14 ?_
  have Fw14 := (F_c.other W13 (Or.inl ne_t)).same W14
  have N14 := Fr.snoc X14 N13 g_a
  have K14 : Keep h0 h14 [a1, t] := K13.wr W14 (Or.inl (List.mem_of_getElem? (i := 0) rfl))
  show WP p e below _ (T14.setTop (mkF m 52 #[.val (.ref a1), .val (.int p2), .val (.int (3 : Int32))] []))
  refine own_go (fun t_ k => XS.aloadN X14.here hx rfl (hb hby d5_52) rfl rfl k) ?_
  show WP p e below _ (T14.setTop (mkF m 53 #[.val (.ref a1), .val (.int p2), .val (.int (3 : Int32))] [(.ref a1)]))
  exact own_retA X14 hx Bd.notSynchronized Bd.returns rfl rfl (hb hby d5_53) (by rw [e14]; exact ⟨rfl, N14, K14, ⟨((E_a.wr W13).wr W14), ((F_v.other W13 (Or.inl ne_t)).other W14 (Or.inr (slot_ne (Or.inl (hw _ (List.mem_of_getElem? (i := 26) rfl))) (Or.inl (hw _ (List.mem_of_getElem? (i := 28) rfl))) (by decide) (t := (.array .char)) (t' := .char) (by decide) (by decide)))), Fw14, ((F_o.other W13 (Or.inl ne_t)).other W14 (Or.inr (slot_ne (Or.inl (hw _ (List.mem_of_getElem? (i := 23) rfl))) (Or.inl (hw _ (List.mem_of_getElem? (i := 28) rfl))) (by decide) (t := (.array .long)) (t' := .char) (by decide) (by decide)))), ((F_h.other W13 (Or.inl ne_t)).other W14 (Or.inr (slot_ne (Or.inl (hw _ (List.mem_of_getElem? (i := 41) rfl))) (Or.inl (hw _ (List.mem_of_getElem? (i := 28) rfl))) (by decide) (t := .boolean) (t' := .char) (by decide) (by decide)))), (V13.other W14 (Ne.symm ne_t)), ((V_u.other W13 ne_ut).other W14 ne_u), ne_t, ne_u, ne_ut⟩⟩) (by decide) (by decide)
theorem d12_0 : decode prog_3_method_13_code 0 = .ok (.aload_n 0, 1) := by decide +kernel
theorem d12_1 : decode prog_3_method_13_code 1 = .ok (.getfield 22, 3) := by decide +kernel
theorem d12_4 : decode prog_3_method_13_code 4 = .ok (.iload_n 2, 1) := by decide +kernel
theorem d12_5 : decode prog_3_method_13_code 5 = .ok (.caload, 1) := by decide +kernel
theorem d12_6 : decode prog_3_method_13_code 6 = .ok (.ireturn, 1) := by decide +kernel
theorem ef_rm_val (m : MethodId) (x0 : Addr) (x1 : Int32) (x2 : Int32) : entryFrame m #[(.ref x0), (.int x1), (.int x2)] 3 = mkF m 0 #[.val (.ref x0), .val (.int x1), .val (.int x2)] [] := by first | (simp [entryFrame, mkF, argsToLocals, Value.category]; done) | rfl
set_option maxRecDepth 65536 in
set_option maxHeartbeats 40000000 in
theorem rm_val (l : Launch) (Z : State) (a0 : Array Value) (hw : ∀ d ∈ tables_1, d.before a0 Z = true) (ws : List Jvm.Cond) (a1 : Addr) (p2 : Int32) (p3 : Int32) (t : Addr) (k : ClassId) (u : Addr) (ku : ClassId) (c0 : Int32) (c1 : Int32) (c2 : Int32) (c3 : Int32) (h0 : Heap) (n0 : Nat) (G : AC Z h0 a1 t k u ku (1 : Int32) c0 c1 c2 c3) (q3 : p3 = (0 : Int32)) :
    MetFree l (⟨"com/example/cairn/cairn/ArrayContainer", "value", "(II)C"⟩ : MethodName) (head1 (Jvm.Cond.code (⟨"com/example/cairn/cairn/ArrayContainer", "value", "(II)C"⟩ : MethodName) prog_3_method_13_code 3 (some .char) :: ws) ({ frames := 0, cells := 0, slots := 0, locals := 0 } : Room)) (fun a U => a = #[(.ref a1), (.int p2), (.int p3)] ∧ Z.Warmed39 U.vm ∧ U.heap = h0) (fun _ _ _ _ _ => True) (fun _ U o U' => ∃ v L, o = .returned v ∧ (PQ h0 n0 (.int (c0.toUInt32.toUInt16.toUInt32.toInt32))) v U'.heap L ∧ FrameEnd U o U' L ({ frames := 0, cells := 0, slots := 0, locals := 0 } : Room).cells ({ frames := 0, cells := 0, slots := 0, locals := 0 } : Room).slots) := by
  refine MetFree.of_bodySF (plainFor_of_name pn_2) hisR ?_
  intro p e s m args below meth c s₁ Bd hml0 hP hK
  obtain ⟨rfl, hZ, hh⟩ := hP
  have hx := Bd.exec
  have hby := Bd.bytes
  have hml : c.maxLocals = 3 := hml0
  have hown : s.vm.findClass "com/example/cairn/cairn/ArrayContainer" = some m.cls := findClass_of_methodNamed Bd.named
  have hnm := (name_of_methodNamed Bd.named Bd.method).1
  have X0 : Stand p l e ({ frames := 0, cells := 0, slots := 0, locals := 0 } : Room) s m #[(.ref a1), (.int p2), (.int p3)] below meth c s₁ [] 0 0 := Stand.of_body Bd
  have e0 : s₁.heap = h0 := by rw [← hh, Bd.state]; rfl
  have N0 := Fr.nil n0
  show WP p e below (GG (PQ h0 n0 (.int (c0.toUInt32.toUInt16.toUInt32.toInt32))) s ({ frames := 0, cells := 0, slots := 0, locals := 0 } : Room).cells ({ frames := 0, cells := 0, slots := 0, locals := 0 } : Room).slots) (s₁.setTop (entryFrame m #[(.ref a1), (.int p2), (.int p3)] 3))
  rw [ef_rm_val m a1 p2 p3]
  obtain ⟨E_a, F_v, F_c, F_o, F_h, V_t, V_u, ne_t, ne_u, ne_ut⟩ := id G
  subst q3
  show WP p e below _ (s₁.setTop (mkF m 0 #[.val (.ref a1), .val (.int p2), .val (.int (0 : Int32))] []))
  refine own_go (fun t_ k => XS.aloadN X0.here hx rfl (hb hby d12_0) rfl rfl k) ?_
  show WP p e below _ (s₁.setTop (mkF m 1 #[.val (.ref a1), .val (.int p2), .val (.int (0 : Int32))] [(.ref a1)]))
  obtain ⟨T1, X1, e1, st1⟩ := getF X0 hx hZ hown (host := "") (Or.inl (hw _ (List.mem_of_getElem? (i := 25) rfl))) Via.refl e0 F_v (g := (mkF m 1 #[.val (.ref a1), .val (.int p2), .val (.int (0 : Int32))] [(.ref a1)])) rfl rfl (hb hby d12_1)
  refine own_go st1 ?_
  show WP p e below _ (T1.setTop (mkF m 4 #[.val (.ref a1), .val (.int p2), .val (.int (0 : Int32))] [(.ref t)]))
  refine own_go (fun t_ k => XS.iloadN X1.here hx rfl (hb hby d12_4) rfl k) ?_
  show WP p e below _ (T1.setTop (mkF m 5 #[.val (.ref a1), .val (.int p2), .val (.int (0 : Int32))] [(.int (0 : Int32)), (.ref t)]))
  obtain ⟨cl2, Ar2, -, S2, M2, H2, -⟩ := id (V_t)
  have hin2 : ¬ ((0 : Int32) < 0 ∨ cl2.slots.size ≤ ((0 : Int32)).toNatClampNeg) := inb_of S2 (⟨by decide, by decide⟩)
  refine own_go (fun t_ k => X1.caload hx (j := (0 : Int32)) (v := (.int c0)) (by rw [e1]; exact Ar2.1) (State.isArrayOf_alike hZ.alike Ar2.2.1) Ar2.2.2 hin2 (H2.at hin2 rfl) (g := (mkF m 5 #[.val (.ref a1), .val (.int p2), .val (.int (0 : Int32))] [(.int (0 : Int32)), (.ref t)])) rfl rfl (hb hby d12_5) _ k) ?_
  show WP p e below _ (T1.setTop (mkF m 6 #[.val (.ref a1), .val (.int p2), .val (.int (0 : Int32))] [(.int c0)]))
  exact own_retC X1 hx Bd.notSynchronized Bd.returns (hb hby d12_6) (show PQ h0 n0 (.int (c0.toUInt32.toUInt16.toUInt32.toInt32)) _ _ _ from ⟨rfl, N0, e1⟩) (by decide) (by decide)
theorem pd_2 : parseMethodDescriptor "(II)C" = some ⟨[.int, .int], some .char⟩ := by decide +kernel
theorem d11_0 : decode prog_7_method_3_code 0 = .ok (.iconst (-1), 1) := by decide +kernel
theorem d11_1 : decode prog_7_method_3_code 1 = .ok (.istore 4, 2) := by decide +kernel
theorem d11_3 : decode prog_7_method_3_code 3 = .ok (.iload_n 2, 1) := by decide +kernel
theorem d11_4 : decode prog_7_method_3_code 4 = .ok (.iconst 1, 1) := by decide +kernel
theorem d11_5 : decode prog_7_method_3_code 5 = .ok (.iadd, 1) := by decide +kernel
theorem d11_6 : decode prog_7_method_3_code 6 = .ok (.istore 5, 2) := by decide +kernel
theorem d11_8 : decode prog_7_method_3_code 8 = .ok (.iload 5, 2) := by decide +kernel
theorem d11_10 : decode prog_7_method_3_code 10 = .ok (.iconst 1, 1) := by decide +kernel
theorem d11_11 : decode prog_7_method_3_code 11 = .ok (.if_icmp .le 44, 3) := by decide +kernel
theorem d11_14 : decode prog_7_method_3_code 14 = .ok (.iload 5, 2) := by decide +kernel
theorem d11_16 : decode prog_7_method_3_code 16 = .ok (.iconst 1, 1) := by decide +kernel
theorem d11_17 : decode prog_7_method_3_code 17 = .ok (.iushr, 1) := by decide +kernel
theorem d11_18 : decode prog_7_method_3_code 18 = .ok (.istore 6, 2) := by decide +kernel
theorem d11_20 : decode prog_7_method_3_code 20 = .ok (.iload 4, 2) := by decide +kernel
theorem d11_22 : decode prog_7_method_3_code 22 = .ok (.iload 6, 2) := by decide +kernel
theorem d11_24 : decode prog_7_method_3_code 24 = .ok (.aload_n 0, 1) := by decide +kernel
theorem d11_25 : decode prog_7_method_3_code 25 = .ok (.iload_n 1, 1) := by decide +kernel
theorem d11_26 : decode prog_7_method_3_code 26 = .ok (.iload 4, 2) := by decide +kernel
theorem d11_28 : decode prog_7_method_3_code 28 = .ok (.iload 6, 2) := by decide +kernel
theorem d11_30 : decode prog_7_method_3_code 30 = .ok (.iadd, 1) := by decide +kernel
theorem d11_31 : decode prog_7_method_3_code 31 = .ok (.invokeinterface 7 3, 5) := by decide +kernel
theorem d11_36 : decode prog_7_method_3_code 36 = .ok (.iload_n 3, 1) := by decide +kernel
theorem d11_37 : decode prog_7_method_3_code 37 = .ok (.isub, 1) := by decide +kernel
theorem d11_38 : decode prog_7_method_3_code 38 = .ok (.bipush 31, 2) := by decide +kernel
theorem d11_40 : decode prog_7_method_3_code 40 = .ok (.ishr, 1) := by decide +kernel
theorem d11_41 : decode prog_7_method_3_code 41 = .ok (.iand, 1) := by decide +kernel
theorem d11_42 : decode prog_7_method_3_code 42 = .ok (.iadd, 1) := by decide +kernel
theorem d11_43 : decode prog_7_method_3_code 43 = .ok (.istore 4, 2) := by decide +kernel
theorem d11_45 : decode prog_7_method_3_code 45 = .ok (.iload 5, 2) := by decide +kernel
theorem d11_47 : decode prog_7_method_3_code 47 = .ok (.iload 6, 2) := by decide +kernel
theorem d11_49 : decode prog_7_method_3_code 49 = .ok (.isub, 1) := by decide +kernel
theorem d11_50 : decode prog_7_method_3_code 50 = .ok (.istore 5, 2) := by decide +kernel
theorem d11_52 : decode prog_7_method_3_code 52 = .ok (.goto (-44), 3) := by decide +kernel
theorem d11_55 : decode prog_7_method_3_code 55 = .ok (.iload 4, 2) := by decide +kernel
theorem d11_57 : decode prog_7_method_3_code 57 = .ok (.iconst 1, 1) := by decide +kernel
theorem d11_58 : decode prog_7_method_3_code 58 = .ok (.iadd, 1) := by decide +kernel
theorem d11_59 : decode prog_7_method_3_code 59 = .ok (.ireturn, 1) := by decide +kernel
theorem pn_3 : plainName "com/example/cairn/cairn/ArrayValues" = true := by first | (simp [plainName, overriddenIn]; done) | decide +kernel
theorem ef_rm_cb (m : MethodId) (x0 : Addr) (x1 : Int32) (x2 : Int32) (x3 : Int32) : entryFrame m #[(.ref x0), (.int x1), (.int x2), (.int x3)] 7 = mkF m 0 #[.val (.ref x0), .val (.int x1), .val (.int x2), .val (.int x3), .unset, .unset, .unset] [] := by first | (simp [entryFrame, mkF, argsToLocals, Value.category]; done) | rfl
set_option maxRecDepth 65536 in
set_option maxHeartbeats 40000000 in
theorem rm_cb (l : Launch) (Z : State) (a0 : Array Value) (hw : ∀ d ∈ tables_1, d.before a0 Z = true) (ws : List Jvm.Cond) (a1 : Addr) (p2 : Int32) (p3 : Int32) (p4 : Int32) (t : Addr) (k : ClassId) (u : Addr) (ku : ClassId) (c0 : Int32) (c1 : Int32) (c2 : Int32) (c3 : Int32) (h0 : Heap) (n0 : Nat) (G : AC Z h0 a1 t k u ku (1 : Int32) c0 c1 c2 c3) (q2 : p2 = (0 : Int32)) (q3 : p3 = (1 : Int32)) (hp : (c0.toUInt32.toUInt16.toUInt32.toInt32) = p4) :
    MetFree l (⟨"com/example/cairn/cairn/ArrayValues", "countBelow", "(Lcom/example/cairn/cairn/ArrayValues;III)I"⟩ : MethodName) (head1 (Jvm.Cond.code (⟨"com/example/cairn/cairn/ArrayValues", "countBelow", "(Lcom/example/cairn/cairn/ArrayValues;III)I"⟩ : MethodName) prog_7_method_3_code 7 (some .int) :: ws) ({ frames := 1, cells := 0, slots := 0, locals := 16 } : Room)) (fun a U => a = #[(.ref a1), (.int p2), (.int p3), (.int p4)] ∧ Z.Warmed39 U.vm ∧ U.heap = h0) (fun _ _ _ _ _ => True) (fun _ U o U' => ∃ v L, o = .returned v ∧ (PQ h0 n0 (.int (0 : Int32))) v U'.heap L ∧ FrameEnd U o U' L ({ frames := 1, cells := 0, slots := 0, locals := 16 } : Room).cells ({ frames := 1, cells := 0, slots := 0, locals := 16 } : Room).slots) := by
  refine MetFree.of_bodySF (plainFor_of_name pn_3) hisR ?_
  intro p e s m args below meth c s₁ Bd hml0 hP hK
  obtain ⟨rfl, hZ, hh⟩ := hP
  have hx := Bd.exec
  have hby := Bd.bytes
  have hml : c.maxLocals = 7 := hml0
  have hown : s.vm.findClass "com/example/cairn/cairn/ArrayValues" = some m.cls := findClass_of_methodNamed Bd.named
  have hnm := (name_of_methodNamed Bd.named Bd.method).1
  have X0 : Stand p l e ({ frames := 1, cells := 0, slots := 0, locals := 16 } : Room) s m #[(.ref a1), (.int p2), (.int p3), (.int p4)] below meth c s₁ [] 0 0 := Stand.of_body Bd
  have e0 : s₁.heap = h0 := by rw [← hh, Bd.state]; rfl
  have N0 := Fr.nil n0
  show WP p e below (GG (PQ h0 n0 (.int (0 : Int32))) s ({ frames := 1, cells := 0, slots := 0, locals := 16 } : Room).cells ({ frames := 1, cells := 0, slots := 0, locals := 16 } : Room).slots) (s₁.setTop (entryFrame m #[(.ref a1), (.int p2), (.int p3), (.int p4)] 7))
  rw [ef_rm_cb m a1 p2 p3 p4]
  subst q2
  subst q3
  show WP p e below _ (s₁.setTop (mkF m 0 #[.val (.ref a1), .val (.int (0 : Int32)), .val (.int (1 : Int32)), .val (.int p4), .unset, .unset, .unset] []))
  refine own_go (fun t_ k => XS.iconst X0.here hx rfl (hb hby d11_0) k) ?_
  show WP p e below _ (s₁.setTop (mkF m 1 #[.val (.ref a1), .val (.int (0 : Int32)), .val (.int (1 : Int32)), .val (.int p4), .unset, .unset, .unset] [(.int (-1 : Int32))]))
  refine own_go (fun t_ k => XS.istore X0.here hx rfl (hb hby d11_1) rfl (l' := #[.val (.ref a1), .val (.int (0 : Int32)), .val (.int (1 : Int32)), .val (.int p4), .val (.int (-1 : Int32)), .unset, .unset]) rfl k) ?_
  show WP p e below _ (s₁.setTop (mkF m 3 #[.val (.ref a1), .val (.int (0 : Int32)), .val (.int (1 : Int32)), .val (.int p4), .val (.int (-1 : Int32)), .unset, .unset] []))
  refine own_go (fun t_ k => XS.iloadN X0.here hx rfl (hb hby d11_3) rfl k) ?_
  show WP p e below _ (s₁.setTop (mkF m 4 #[.val (.ref a1), .val (.int (0 : Int32)), .val (.int (1 : Int32)), .val (.int p4), .val (.int (-1 : Int32)), .unset, .unset] [(.int (1 : Int32))]))
  refine own_go (fun t_ k => XS.iconst X0.here hx rfl (hb hby d11_4) k) ?_
  show WP p e below _ (s₁.setTop (mkF m 5 #[.val (.ref a1), .val (.int (0 : Int32)), .val (.int (1 : Int32)), .val (.int p4), .val (.int (-1 : Int32)), .unset, .unset] [(.int (1 : Int32)), (.int (1 : Int32))]))
  refine own_go (fun t_ k => XS.iadd X0.here hx rfl (hb hby d11_5) rfl k) ?_
  show WP p e below _ (s₁.setTop (mkF m 6 #[.val (.ref a1), .val (.int (0 : Int32)), .val (.int (1 : Int32)), .val (.int p4), .val (.int (-1 : Int32)), .unset, .unset] [(.int (2 : Int32))]))
  refine own_go (fun t_ k => XS.istore X0.here hx rfl (hb hby d11_6) rfl (l' := #[.val (.ref a1), .val (.int (0 : Int32)), .val (.int (1 : Int32)), .val (.int p4), .val (.int (-1 : Int32)), .val (.int (2 : Int32)), .unset]) rfl k) ?_
  show WP p e below _ (s₁.setTop (mkF m 8 #[.val (.ref a1), .val (.int (0 : Int32)), .val (.int (1 : Int32)), .val (.int p4), .val (.int (-1 : Int32)), .val (.int (2 : Int32)), .unset] []))
  refine own_go (fun t_ k => XS.iload X0.here hx rfl (hb hby d11_8) rfl k) ?_
  show WP p e below _ (s₁.setTop (mkF m 10 #[.val (.ref a1), .val (.int (0 : Int32)), .val (.int (1 : Int32)), .val (.int p4), .val (.int (-1 : Int32)), .val (.int (2 : Int32)), .unset] [(.int (2 : Int32))]))
  refine own_go (fun t_ k => XS.iconst X0.here hx rfl (hb hby d11_10) k) ?_
  show WP p e below _ (s₁.setTop (mkF m 11 #[.val (.ref a1), .val (.int (0 : Int32)), .val (.int (1 : Int32)), .val (.int p4), .val (.int (-1 : Int32)), .val (.int (2 : Int32)), .unset] [(.int (1 : Int32)), (.int (2 : Int32))]))
  have hc11_1 : ((1 : Int32) < (2 : Int32)) := by decide
  refine own_go (fun t_ k => XS.icmpNo X0.here hx rfl (hb hby d11_11) rfl (tlt hc11_1).2.2.2 k) ?_
  show WP p e below _ (s₁.setTop (mkF m 14 #[.val (.ref a1), .val (.int (0 : Int32)), .val (.int (1 : Int32)), .val (.int p4), .val (.int (-1 : Int32)), .val (.int (2 : Int32)), .unset] []))
  refine own_go (fun t_ k => XS.iload X0.here hx rfl (hb hby d11_14) rfl k) ?_
  show WP p e below _ (s₁.setTop (mkF m 16 #[.val (.ref a1), .val (.int (0 : Int32)), .val (.int (1 : Int32)), .val (.int p4), .val (.int (-1 : Int32)), .val (.int (2 : Int32)), .unset] [(.int (2 : Int32))]))
  refine own_go (fun t_ k => XS.iconst X0.here hx rfl (hb hby d11_16) k) ?_
  show WP p e below _ (s₁.setTop (mkF m 17 #[.val (.ref a1), .val (.int (0 : Int32)), .val (.int (1 : Int32)), .val (.int p4), .val (.int (-1 : Int32)), .val (.int (2 : Int32)), .unset] [(.int (1 : Int32)), (.int (2 : Int32))]))
  refine own_go (fun t_ k => XS.iushr X0.here hx rfl (hb hby d11_17) rfl k) ?_
  show WP p e below _ (s₁.setTop (mkF m 18 #[.val (.ref a1), .val (.int (0 : Int32)), .val (.int (1 : Int32)), .val (.int p4), .val (.int (-1 : Int32)), .val (.int (2 : Int32)), .unset] [(.int (1 : Int32))]))
  refine own_go (fun t_ k => XS.istore X0.here hx rfl (hb hby d11_18) rfl (l' := #[.val (.ref a1), .val (.int (0 : Int32)), .val (.int (1 : Int32)), .val (.int p4), .val (.int (-1 : Int32)), .val (.int (2 : Int32)), .val (.int (1 : Int32))]) rfl k) ?_
  show WP p e below _ (s₁.setTop (mkF m 20 #[.val (.ref a1), .val (.int (0 : Int32)), .val (.int (1 : Int32)), .val (.int p4), .val (.int (-1 : Int32)), .val (.int (2 : Int32)), .val (.int (1 : Int32))] []))
  refine own_go (fun t_ k => XS.iload X0.here hx rfl (hb hby d11_20) rfl k) ?_
  show WP p e below _ (s₁.setTop (mkF m 22 #[.val (.ref a1), .val (.int (0 : Int32)), .val (.int (1 : Int32)), .val (.int p4), .val (.int (-1 : Int32)), .val (.int (2 : Int32)), .val (.int (1 : Int32))] [(.int (-1 : Int32))]))
  refine own_go (fun t_ k => XS.iload X0.here hx rfl (hb hby d11_22) rfl k) ?_
  show WP p e below _ (s₁.setTop (mkF m 24 #[.val (.ref a1), .val (.int (0 : Int32)), .val (.int (1 : Int32)), .val (.int p4), .val (.int (-1 : Int32)), .val (.int (2 : Int32)), .val (.int (1 : Int32))] [(.int (1 : Int32)), (.int (-1 : Int32))]))
  refine own_go (fun t_ k => XS.aloadN X0.here hx rfl (hb hby d11_24) rfl rfl k) ?_
  show WP p e below _ (s₁.setTop (mkF m 25 #[.val (.ref a1), .val (.int (0 : Int32)), .val (.int (1 : Int32)), .val (.int p4), .val (.int (-1 : Int32)), .val (.int (2 : Int32)), .val (.int (1 : Int32))] [(.ref a1), (.int (1 : Int32)), (.int (-1 : Int32))]))
  refine own_go (fun t_ k => XS.iloadN X0.here hx rfl (hb hby d11_25) rfl k) ?_
  show WP p e below _ (s₁.setTop (mkF m 26 #[.val (.ref a1), .val (.int (0 : Int32)), .val (.int (1 : Int32)), .val (.int p4), .val (.int (-1 : Int32)), .val (.int (2 : Int32)), .val (.int (1 : Int32))] [(.int (0 : Int32)), (.ref a1), (.int (1 : Int32)), (.int (-1 : Int32))]))
  refine own_go (fun t_ k => XS.iload X0.here hx rfl (hb hby d11_26) rfl k) ?_
  show WP p e below _ (s₁.setTop (mkF m 28 #[.val (.ref a1), .val (.int (0 : Int32)), .val (.int (1 : Int32)), .val (.int p4), .val (.int (-1 : Int32)), .val (.int (2 : Int32)), .val (.int (1 : Int32))] [(.int (-1 : Int32)), (.int (0 : Int32)), (.ref a1), (.int (1 : Int32)), (.int (-1 : Int32))]))
  refine own_go (fun t_ k => XS.iload X0.here hx rfl (hb hby d11_28) rfl k) ?_
  show WP p e below _ (s₁.setTop (mkF m 30 #[.val (.ref a1), .val (.int (0 : Int32)), .val (.int (1 : Int32)), .val (.int p4), .val (.int (-1 : Int32)), .val (.int (2 : Int32)), .val (.int (1 : Int32))] [(.int (1 : Int32)), (.int (-1 : Int32)), (.int (0 : Int32)), (.ref a1), (.int (1 : Int32)), (.int (-1 : Int32))]))
  refine own_go (fun t_ k => XS.iadd X0.here hx rfl (hb hby d11_30) rfl k) ?_
  show WP p e below _ (s₁.setTop (mkF m 31 #[.val (.ref a1), .val (.int (0 : Int32)), .val (.int (1 : Int32)), .val (.int p4), .val (.int (-1 : Int32)), .val (.int (2 : Int32)), .val (.int (1 : Int32))] [(.int (0 : Int32)), (.int (0 : Int32)), (.ref a1), (.int (1 : Int32)), (.int (-1 : Int32))]))
  obtain ⟨cq2, kq2, q2a, q2b, q2c⟩ := isOf (T := s₁) hZ e0 G.1
  obtain ⟨_, _, ⟨T2, L2, k2, n2⟩, -, X2, ⟨Lc2, hQ2, l2, y2, z2⟩, st2⟩ := X0.interfaceBack hx (xi := (⟨"com/example/cairn/cairn/ArrayValues", "value", "(II)C"⟩ : MethodName)) (y := (⟨"com/example/cairn/cairn/ArrayContainer", "value", "(II)C"⟩ : MethodName)) hown (mvT hZ (hw _ (List.mem_of_getElem? (i := 64) rfl))) (mvT hZ (hw _ (List.mem_of_getElem? (i := 65) rfl))) (mvT hZ (hw _ (List.mem_of_getElem? (i := 66) rfl))) (mvT hZ (hw _ (List.mem_of_getElem? (i := 67) rfl))) (mvT hZ (hw _ (List.mem_of_getElem? (i := 68) rfl))) (mvT hZ (hw _ (List.mem_of_getElem? (i := 69) rfl))) (mvT hZ (hw _ (List.mem_of_getElem? (i := 70) rfl))) (mvT hZ (hw _ (List.mem_of_getElem? (i := 71) rfl))) (by decide) (backOf (W := 2) (rm_val l Z a0 hw [] a1 (0 : Int32) (0 : Int32) t k u ku c0 c1 c2 c3 h0 n0 G rfl) hZ (hw _ (List.mem_of_getElem? (i := 72) rfl)) (hw _ (List.mem_of_getElem? (i := 8) rfl)) (by decide) (by decide)) q2a q2b q2c (g := (mkF m 31 #[.val (.ref a1), .val (.int (0 : Int32)), .val (.int (1 : Int32)), .val (.int p4), .val (.int (-1 : Int32)), .val (.int (2 : Int32)), .val (.int (1 : Int32))] [(.int (0 : Int32)), (.int (0 : Int32)), (.ref a1), (.int (1 : Int32)), (.int (-1 : Int32))])) rfl (by rw [hml]; rfl) (Steps.refl _) (argsL := [(.int (0 : Int32)), (.int (0 : Int32))]) (rest := [(.int (1 : Int32)), (.int (-1 : Int32))]) (lenOf pd_2 rfl) rfl (by show 2 * 0 + _ ≤ _; exact Nat.le_of_eq rfl) (hb hby d11_31) (fun _ _ => ⟨rfl, e0, (by decide : 0 + 0 ≤ _), (by decide : 0 + 0 ≤ _)⟩)
  dsimp only [Pt.U, Pt.locs, Pt.cells, Pt.slots] at X2 l2 y2 z2 st2 hQ2
  subst l2 y2 z2
  obtain ⟨rfl, N2q, e2⟩ := hQ2
  have N2 := Fr.app N0 N2q
  replace X2 : Stand p l e ({ frames := 1, cells := 0, slots := 0, locals := 16 } : Room) s m _ below meth c T2 _ 0 0 := X2
  refine own_go (fun t_ k => st2.trans k) ?_
  show WP p e below _ (T2.setTop (mkF m 36 #[.val (.ref a1), .val (.int (0 : Int32)), .val (.int (1 : Int32)), .val (.int p4), .val (.int (-1 : Int32)), .val (.int (2 : Int32)), .val (.int (1 : Int32))] [(.int (c0.toUInt32.toUInt16.toUInt32.toInt32)), (.int (1 : Int32)), (.int (-1 : Int32))]))
  refine own_go (fun t_ k => XS.iloadN X2.here hx rfl (hb hby d11_36) rfl k) ?_
  show WP p e below _ (T2.setTop (mkF m 37 #[.val (.ref a1), .val (.int (0 : Int32)), .val (.int (1 : Int32)), .val (.int p4), .val (.int (-1 : Int32)), .val (.int (2 : Int32)), .val (.int (1 : Int32))] [(.int p4), (.int (c0.toUInt32.toUInt16.toUInt32.toInt32)), (.int (1 : Int32)), (.int (-1 : Int32))]))
  refine own_go (fun t_ k => XS.isub X2.here hx rfl (hb hby d11_37) rfl k) ?_
  show WP p e below _ (T2.setTop (mkF m 38 #[.val (.ref a1), .val (.int (0 : Int32)), .val (.int (1 : Int32)), .val (.int p4), .val (.int (-1 : Int32)), .val (.int (2 : Int32)), .val (.int (1 : Int32))] [(.int ((c0.toUInt32.toUInt16.toUInt32.toInt32) - p4)), (.int (1 : Int32)), (.int (-1 : Int32))]))
  refine own_go (fun t_ k => XS.bipush X2.here hx rfl (hb hby d11_38) k) ?_
  show WP p e below _ (T2.setTop (mkF m 40 #[.val (.ref a1), .val (.int (0 : Int32)), .val (.int (1 : Int32)), .val (.int p4), .val (.int (-1 : Int32)), .val (.int (2 : Int32)), .val (.int (1 : Int32))] [(.int (31 : Int32)), (.int ((c0.toUInt32.toUInt16.toUInt32.toInt32) - p4)), (.int (1 : Int32)), (.int (-1 : Int32))]))
  refine own_go (fun t_ k => XS.ishr X2.here hx rfl (hb hby d11_40) rfl k) ?_
  show WP p e below _ (T2.setTop (mkF m 41 #[.val (.ref a1), .val (.int (0 : Int32)), .val (.int (1 : Int32)), .val (.int p4), .val (.int (-1 : Int32)), .val (.int (2 : Int32)), .val (.int (1 : Int32))] [(.int (((c0.toUInt32.toUInt16.toUInt32.toInt32) - p4) >>> ((31 : Int32) &&& 31))), (.int (1 : Int32)), (.int (-1 : Int32))]))
  refine own_go (fun t_ k => XS.iand X2.here hx rfl (hb hby d11_41) rfl k) ?_
  show WP p e below _ (T2.setTop (mkF m 42 #[.val (.ref a1), .val (.int (0 : Int32)), .val (.int (1 : Int32)), .val (.int p4), .val (.int (-1 : Int32)), .val (.int (2 : Int32)), .val (.int (1 : Int32))] [(.int ((1 : Int32) &&& (((c0.toUInt32.toUInt16.toUInt32.toInt32) - p4) >>> ((31 : Int32) &&& 31)))), (.int (-1 : Int32))]))
  rw [show ((1 : Int32) &&& (((c0.toUInt32.toUInt16.toUInt32.toInt32) - p4) >>> ((31 : Int32) &&& 31))) = (0 : Int32) from own_z _ _ hp]
  show WP p e below _ (T2.setTop (mkF m 42 #[.val (.ref a1), .val (.int (0 : Int32)), .val (.int (1 : Int32)), .val (.int p4), .val (.int (-1 : Int32)), .val (.int (2 : Int32)), .val (.int (1 : Int32))] [(.int (0 : Int32)), (.int (-1 : Int32))]))
  refine own_go (fun t_ k => XS.iadd X2.here hx rfl (hb hby d11_42) rfl k) ?_
  show WP p e below _ (T2.setTop (mkF m 43 #[.val (.ref a1), .val (.int (0 : Int32)), .val (.int (1 : Int32)), .val (.int p4), .val (.int (-1 : Int32)), .val (.int (2 : Int32)), .val (.int (1 : Int32))] [(.int (-1 : Int32))]))
  refine own_go (fun t_ k => XS.istore X2.here hx rfl (hb hby d11_43) rfl (l' := #[.val (.ref a1), .val (.int (0 : Int32)), .val (.int (1 : Int32)), .val (.int p4), .val (.int (-1 : Int32)), .val (.int (2 : Int32)), .val (.int (1 : Int32))]) rfl k) ?_
  show WP p e below _ (T2.setTop (mkF m 45 #[.val (.ref a1), .val (.int (0 : Int32)), .val (.int (1 : Int32)), .val (.int p4), .val (.int (-1 : Int32)), .val (.int (2 : Int32)), .val (.int (1 : Int32))] []))
  refine own_go (fun t_ k => XS.iload X2.here hx rfl (hb hby d11_45) rfl k) ?_
  show WP p e below _ (T2.setTop (mkF m 47 #[.val (.ref a1), .val (.int (0 : Int32)), .val (.int (1 : Int32)), .val (.int p4), .val (.int (-1 : Int32)), .val (.int (2 : Int32)), .val (.int (1 : Int32))] [(.int (2 : Int32))]))
  refine own_go (fun t_ k => XS.iload X2.here hx rfl (hb hby d11_47) rfl k) ?_
  show WP p e below _ (T2.setTop (mkF m 49 #[.val (.ref a1), .val (.int (0 : Int32)), .val (.int (1 : Int32)), .val (.int p4), .val (.int (-1 : Int32)), .val (.int (2 : Int32)), .val (.int (1 : Int32))] [(.int (1 : Int32)), (.int (2 : Int32))]))
  refine own_go (fun t_ k => XS.isub X2.here hx rfl (hb hby d11_49) rfl k) ?_
  show WP p e below _ (T2.setTop (mkF m 50 #[.val (.ref a1), .val (.int (0 : Int32)), .val (.int (1 : Int32)), .val (.int p4), .val (.int (-1 : Int32)), .val (.int (2 : Int32)), .val (.int (1 : Int32))] [(.int (1 : Int32))]))
  refine own_go (fun t_ k => XS.istore X2.here hx rfl (hb hby d11_50) rfl (l' := #[.val (.ref a1), .val (.int (0 : Int32)), .val (.int (1 : Int32)), .val (.int p4), .val (.int (-1 : Int32)), .val (.int (1 : Int32)), .val (.int (1 : Int32))]) rfl k) ?_
  show WP p e below _ (T2.setTop (mkF m 52 #[.val (.ref a1), .val (.int (0 : Int32)), .val (.int (1 : Int32)), .val (.int p4), .val (.int (-1 : Int32)), .val (.int (1 : Int32)), .val (.int (1 : Int32))] []))
  refine own_go (fun t_ k => XS.goto X2.here hx rfl (pc0 := 52) (pc' := 8) rfl (hb hby d11_52) (by decide) (by decide) k) ?_
  show WP p e below _ (T2.setTop (mkF m 8 #[.val (.ref a1), .val (.int (0 : Int32)), .val (.int (1 : Int32)), .val (.int p4), .val (.int (-1 : Int32)), .val (.int (1 : Int32)), .val (.int (1 : Int32))] []))
  refine own_go (fun t_ k => XS.iload X2.here hx rfl (hb hby d11_8) rfl k) ?_
  show WP p e below _ (T2.setTop (mkF m 10 #[.val (.ref a1), .val (.int (0 : Int32)), .val (.int (1 : Int32)), .val (.int p4), .val (.int (-1 : Int32)), .val (.int (1 : Int32)), .val (.int (1 : Int32))] [(.int (1 : Int32))]))
  refine own_go (fun t_ k => XS.iconst X2.here hx rfl (hb hby d11_10) k) ?_
  show WP p e below _ (T2.setTop (mkF m 11 #[.val (.ref a1), .val (.int (0 : Int32)), .val (.int (1 : Int32)), .val (.int p4), .val (.int (-1 : Int32)), .val (.int (1 : Int32)), .val (.int (1 : Int32))] [(.int (1 : Int32)), (.int (1 : Int32))]))
  have hc11_3 : ¬ ((1 : Int32) < (1 : Int32)) := by decide
  refine own_go (fun t_ k => XS.icmpYes X2.here hx rfl (pc0 := 11) (pc' := 55) rfl (hb hby d11_11) rfl (flt hc11_3).2.2.2 (by decide) (by decide) k) ?_
  show WP p e below _ (T2.setTop (mkF m 55 #[.val (.ref a1), .val (.int (0 : Int32)), .val (.int (1 : Int32)), .val (.int p4), .val (.int (-1 : Int32)), .val (.int (1 : Int32)), .val (.int (1 : Int32))] []))
  refine own_go (fun t_ k => XS.iload X2.here hx rfl (hb hby d11_55) rfl k) ?_
  show WP p e below _ (T2.setTop (mkF m 57 #[.val (.ref a1), .val (.int (0 : Int32)), .val (.int (1 : Int32)), .val (.int p4), .val (.int (-1 : Int32)), .val (.int (1 : Int32)), .val (.int (1 : Int32))] [(.int (-1 : Int32))]))
  refine own_go (fun t_ k => XS.iconst X2.here hx rfl (hb hby d11_57) k) ?_
  show WP p e below _ (T2.setTop (mkF m 58 #[.val (.ref a1), .val (.int (0 : Int32)), .val (.int (1 : Int32)), .val (.int p4), .val (.int (-1 : Int32)), .val (.int (1 : Int32)), .val (.int (1 : Int32))] [(.int (1 : Int32)), (.int (-1 : Int32))]))
  refine own_go (fun t_ k => XS.iadd X2.here hx rfl (hb hby d11_58) rfl k) ?_
  show WP p e below _ (T2.setTop (mkF m 59 #[.val (.ref a1), .val (.int (0 : Int32)), .val (.int (1 : Int32)), .val (.int p4), .val (.int (-1 : Int32)), .val (.int (1 : Int32)), .val (.int (1 : Int32))] [(.int (0 : Int32))]))
  exact own_retI X2 hx Bd.notSynchronized Bd.returns (hb hby d11_59) (show PQ h0 n0 (.int (0 : Int32)) _ _ _ from ⟨rfl, N2, e2⟩) (by decide) (by decide)
theorem pd_3 : parseMethodDescriptor "(Lcom/example/cairn/cairn/ArrayValues;III)I" = some ⟨[(.object "com/example/cairn/cairn/ArrayValues"), .int, .int, .int], some .int⟩ := by decide +kernel
theorem d10_0 : decode prog_7_method_2_code 0 = .ok (.aload_n 0, 1) := by decide +kernel
theorem d10_1 : decode prog_7_method_2_code 1 = .ok (.iload_n 1, 1) := by decide +kernel
theorem d10_2 : decode prog_7_method_2_code 2 = .ok (.iload_n 2, 1) := by decide +kernel
theorem d10_3 : decode prog_7_method_2_code 3 = .ok (.iload_n 3, 1) := by decide +kernel
theorem d10_4 : decode prog_7_method_2_code 4 = .ok (.invokestatic 1, 3) := by decide +kernel
theorem d10_7 : decode prog_7_method_2_code 7 = .ok (.istore 4, 2) := by decide +kernel
theorem d10_9 : decode prog_7_method_2_code 9 = .ok (.iload 4, 2) := by decide +kernel
theorem d10_11 : decode prog_7_method_2_code 11 = .ok (.iload_n 2, 1) := by decide +kernel
theorem d10_12 : decode prog_7_method_2_code 12 = .ok (.if_icmp .ge 21, 3) := by decide +kernel
theorem d10_15 : decode prog_7_method_2_code 15 = .ok (.aload_n 0, 1) := by decide +kernel
theorem d10_16 : decode prog_7_method_2_code 16 = .ok (.iload_n 1, 1) := by decide +kernel
theorem d10_17 : decode prog_7_method_2_code 17 = .ok (.iload 4, 2) := by decide +kernel
theorem d10_19 : decode prog_7_method_2_code 19 = .ok (.invokeinterface 7 3, 5) := by decide +kernel
theorem d10_24 : decode prog_7_method_2_code 24 = .ok (.iload_n 3, 1) := by decide +kernel
theorem d10_25 : decode prog_7_method_2_code 25 = .ok (.if_icmp .ne 8, 3) := by decide +kernel
theorem d10_28 : decode prog_7_method_2_code 28 = .ok (.iload 4, 2) := by decide +kernel
theorem d10_30 : decode prog_7_method_2_code 30 = .ok (.goto 8, 3) := by decide +kernel
theorem d10_38 : decode prog_7_method_2_code 38 = .ok (.ireturn, 1) := by decide +kernel
theorem ef_rm_ix (m : MethodId) (x0 : Addr) (x1 : Int32) (x2 : Int32) (x3 : Int32) : entryFrame m #[(.ref x0), (.int x1), (.int x2), (.int x3)] 5 = mkF m 0 #[.val (.ref x0), .val (.int x1), .val (.int x2), .val (.int x3), .unset] [] := by first | (simp [entryFrame, mkF, argsToLocals, Value.category]; done) | rfl
set_option maxRecDepth 65536 in
set_option maxHeartbeats 40000000 in
theorem rm_ix (l : Launch) (Z : State) (a0 : Array Value) (hw : ∀ d ∈ tables_1, d.before a0 Z = true) (ws : List Jvm.Cond) (a1 : Addr) (p2 : Int32) (p3 : Int32) (p4 : Int32) (t : Addr) (k : ClassId) (u : Addr) (ku : ClassId) (c0 : Int32) (c1 : Int32) (c2 : Int32) (c3 : Int32) (h0 : Heap) (n0 : Nat) (G : AC Z h0 a1 t k u ku (1 : Int32) c0 c1 c2 c3) (q2 : p2 = (0 : Int32)) (q3 : p3 = (1 : Int32)) (hp : (c0.toUInt32.toUInt16.toUInt32.toInt32) = p4) :
    MetFree l (⟨"com/example/cairn/cairn/ArrayValues", "indexOf", "(Lcom/example/cairn/cairn/ArrayValues;IIC)I"⟩ : MethodName) (head1 (Jvm.Cond.code (⟨"com/example/cairn/cairn/ArrayValues", "indexOf", "(Lcom/example/cairn/cairn/ArrayValues;IIC)I"⟩ : MethodName) prog_7_method_2_code 5 (some .int) :: ws) ({ frames := 2, cells := 0, slots := 0, locals := 34 } : Room)) (fun a U => a = #[(.ref a1), (.int p2), (.int p3), (.int p4)] ∧ Z.Warmed39 U.vm ∧ U.heap = h0) (fun _ _ _ _ _ => True) (fun _ U o U' => ∃ v L, o = .returned v ∧ (PQ h0 n0 (.int (0 : Int32))) v U'.heap L ∧ FrameEnd U o U' L ({ frames := 2, cells := 0, slots := 0, locals := 34 } : Room).cells ({ frames := 2, cells := 0, slots := 0, locals := 34 } : Room).slots) := by
  refine MetFree.of_bodySF (plainFor_of_name pn_3) hisR ?_
  intro p e s m args below meth c s₁ Bd hml0 hP hK
  obtain ⟨rfl, hZ, hh⟩ := hP
  have hx := Bd.exec
  have hby := Bd.bytes
  have hml : c.maxLocals = 5 := hml0
  have hown : s.vm.findClass "com/example/cairn/cairn/ArrayValues" = some m.cls := findClass_of_methodNamed Bd.named
  have hnm := (name_of_methodNamed Bd.named Bd.method).1
  have X0 : Stand p l e ({ frames := 2, cells := 0, slots := 0, locals := 34 } : Room) s m #[(.ref a1), (.int p2), (.int p3), (.int p4)] below meth c s₁ [] 0 0 := Stand.of_body Bd
  have e0 : s₁.heap = h0 := by rw [← hh, Bd.state]; rfl
  have N0 := Fr.nil n0
  show WP p e below (GG (PQ h0 n0 (.int (0 : Int32))) s ({ frames := 2, cells := 0, slots := 0, locals := 34 } : Room).cells ({ frames := 2, cells := 0, slots := 0, locals := 34 } : Room).slots) (s₁.setTop (entryFrame m #[(.ref a1), (.int p2), (.int p3), (.int p4)] 5))
  rw [ef_rm_ix m a1 p2 p3 p4]
  subst q2
  subst q3
  show WP p e below _ (s₁.setTop (mkF m 0 #[.val (.ref a1), .val (.int (0 : Int32)), .val (.int (1 : Int32)), .val (.int p4), .unset] []))
  refine own_go (fun t_ k => XS.aloadN X0.here hx rfl (hb hby d10_0) rfl rfl k) ?_
  show WP p e below _ (s₁.setTop (mkF m 1 #[.val (.ref a1), .val (.int (0 : Int32)), .val (.int (1 : Int32)), .val (.int p4), .unset] [(.ref a1)]))
  refine own_go (fun t_ k => XS.iloadN X0.here hx rfl (hb hby d10_1) rfl k) ?_
  show WP p e below _ (s₁.setTop (mkF m 2 #[.val (.ref a1), .val (.int (0 : Int32)), .val (.int (1 : Int32)), .val (.int p4), .unset] [(.int (0 : Int32)), (.ref a1)]))
  refine own_go (fun t_ k => XS.iloadN X0.here hx rfl (hb hby d10_2) rfl k) ?_
  show WP p e below _ (s₁.setTop (mkF m 3 #[.val (.ref a1), .val (.int (0 : Int32)), .val (.int (1 : Int32)), .val (.int p4), .unset] [(.int (1 : Int32)), (.int (0 : Int32)), (.ref a1)]))
  refine own_go (fun t_ k => XS.iloadN X0.here hx rfl (hb hby d10_3) rfl k) ?_
  show WP p e below _ (s₁.setTop (mkF m 4 #[.val (.ref a1), .val (.int (0 : Int32)), .val (.int (1 : Int32)), .val (.int p4), .unset] [(.int p4), (.int (1 : Int32)), (.int (0 : Int32)), (.ref a1)]))
  obtain ⟨_, _, ⟨T1, L1, k1, n1⟩, -, X1, ⟨Lc1, hQ1, l1, y1, z1⟩, st1⟩ := Jvm.LawKit.callS X0 hx (y := (⟨"com/example/cairn/cairn/ArrayValues", "countBelow", "(Lcom/example/cairn/cairn/ArrayValues;III)I"⟩ : MethodName)) hown (mvT hZ (hw _ (List.mem_of_getElem? (i := 61) rfl))) (mvT hZ (hw _ (List.mem_of_getElem? (i := 62) rfl))) (mvT hZ (hw _ (List.mem_of_getElem? (i := 59) rfl))) (mvT hZ (hw _ (List.mem_of_getElem? (i := 63) rfl))) (by decide) (backOf (W := 0) (rm_cb l Z a0 hw [] a1 (0 : Int32) (1 : Int32) p4 t k u ku c0 c1 c2 c3 h0 n0 G rfl rfl hp) hZ (hw _ (List.mem_of_getElem? (i := 63) rfl)) (hw _ (List.mem_of_getElem? (i := 59) rfl)) (by decide) (by decide)) (g := (mkF m 4 #[.val (.ref a1), .val (.int (0 : Int32)), .val (.int (1 : Int32)), .val (.int p4), .unset] [(.int p4), (.int (1 : Int32)), (.int (0 : Int32)), (.ref a1)])) rfl (by rw [hml]; rfl) (argsL := [(.ref a1), (.int (0 : Int32)), (.int (1 : Int32)), (.int p4)]) (rest := []) (lenOf pd_3 rfl) rfl (by show 2 * 0 + _ ≤ _; exact Nat.le_of_eq rfl) (hb hby d10_4) (fun _ _ => ⟨rfl, e0, (by decide : 0 + 0 ≤ _), (by decide : 0 + 0 ≤ _)⟩)
  dsimp only [Pt.U, Pt.locs, Pt.cells, Pt.slots] at X1 l1 y1 z1 st1 hQ1
  subst l1 y1 z1
  obtain ⟨rfl, N1q, e1⟩ := hQ1
  have N1 := Fr.app N0 N1q
  replace X1 : Stand p l e ({ frames := 2, cells := 0, slots := 0, locals := 34 } : Room) s m _ below meth c T1 _ 0 0 := X1
  refine own_go st1 ?_
  show WP p e below _ (T1.setTop (mkF m 7 #[.val (.ref a1), .val (.int (0 : Int32)), .val (.int (1 : Int32)), .val (.int p4), .unset] [(.int (0 : Int32))]))
  refine own_go (fun t_ k => XS.istore X1.here hx rfl (hb hby d10_7) rfl (l' := #[.val (.ref a1), .val (.int (0 : Int32)), .val (.int (1 : Int32)), .val (.int p4), .val (.int (0 : Int32))]) rfl k) ?_
  show WP p e below _ (T1.setTop (mkF m 9 #[.val (.ref a1), .val (.int (0 : Int32)), .val (.int (1 : Int32)), .val (.int p4), .val (.int (0 : Int32))] []))
  refine own_go (fun t_ k => XS.iload X1.here hx rfl (hb hby d10_9) rfl k) ?_
  show WP p e below _ (T1.setTop (mkF m 11 #[.val (.ref a1), .val (.int (0 : Int32)), .val (.int (1 : Int32)), .val (.int p4), .val (.int (0 : Int32))] [(.int (0 : Int32))]))
  refine own_go (fun t_ k => XS.iloadN X1.here hx rfl (hb hby d10_11) rfl k) ?_
  show WP p e below _ (T1.setTop (mkF m 12 #[.val (.ref a1), .val (.int (0 : Int32)), .val (.int (1 : Int32)), .val (.int p4), .val (.int (0 : Int32))] [(.int (1 : Int32)), (.int (0 : Int32))]))
  have hc12_2 : ((0 : Int32) < (1 : Int32)) := by decide
  refine own_go (fun t_ k => XS.icmpNo X1.here hx rfl (hb hby d10_12) rfl (tlt hc12_2).2.1 k) ?_
  show WP p e below _ (T1.setTop (mkF m 15 #[.val (.ref a1), .val (.int (0 : Int32)), .val (.int (1 : Int32)), .val (.int p4), .val (.int (0 : Int32))] []))
  refine own_go (fun t_ k => XS.aloadN X1.here hx rfl (hb hby d10_15) rfl rfl k) ?_
  show WP p e below _ (T1.setTop (mkF m 16 #[.val (.ref a1), .val (.int (0 : Int32)), .val (.int (1 : Int32)), .val (.int p4), .val (.int (0 : Int32))] [(.ref a1)]))
  refine own_go (fun t_ k => XS.iloadN X1.here hx rfl (hb hby d10_16) rfl k) ?_
  show WP p e below _ (T1.setTop (mkF m 17 #[.val (.ref a1), .val (.int (0 : Int32)), .val (.int (1 : Int32)), .val (.int p4), .val (.int (0 : Int32))] [(.int (0 : Int32)), (.ref a1)]))
  refine own_go (fun t_ k => XS.iload X1.here hx rfl (hb hby d10_17) rfl k) ?_
  show WP p e below _ (T1.setTop (mkF m 19 #[.val (.ref a1), .val (.int (0 : Int32)), .val (.int (1 : Int32)), .val (.int p4), .val (.int (0 : Int32))] [(.int (0 : Int32)), (.int (0 : Int32)), (.ref a1)]))
  obtain ⟨cq3, kq3, q3a, q3b, q3c⟩ := isOf (T := T1) hZ e1 G.1
  obtain ⟨_, _, ⟨T3, L3, k3, n3⟩, -, X3, ⟨Lc3, hQ3, l3, y3, z3⟩, st3⟩ := X1.interfaceBack hx (xi := (⟨"com/example/cairn/cairn/ArrayValues", "value", "(II)C"⟩ : MethodName)) (y := (⟨"com/example/cairn/cairn/ArrayContainer", "value", "(II)C"⟩ : MethodName)) hown (mvT hZ (hw _ (List.mem_of_getElem? (i := 64) rfl))) (mvT hZ (hw _ (List.mem_of_getElem? (i := 65) rfl))) (mvT hZ (hw _ (List.mem_of_getElem? (i := 66) rfl))) (mvT hZ (hw _ (List.mem_of_getElem? (i := 67) rfl))) (mvT hZ (hw _ (List.mem_of_getElem? (i := 68) rfl))) (mvT hZ (hw _ (List.mem_of_getElem? (i := 69) rfl))) (mvT hZ (hw _ (List.mem_of_getElem? (i := 70) rfl))) (mvT hZ (hw _ (List.mem_of_getElem? (i := 71) rfl))) (by decide) (backOf (W := 0) (rm_val l Z a0 hw [] a1 (0 : Int32) (0 : Int32) t k u ku c0 c1 c2 c3 h0 n0 G rfl) hZ (hw _ (List.mem_of_getElem? (i := 72) rfl)) (hw _ (List.mem_of_getElem? (i := 8) rfl)) (by decide) (by decide)) q3a q3b q3c (g := (mkF m 19 #[.val (.ref a1), .val (.int (0 : Int32)), .val (.int (1 : Int32)), .val (.int p4), .val (.int (0 : Int32))] [(.int (0 : Int32)), (.int (0 : Int32)), (.ref a1)])) rfl (by rw [hml]; rfl) (Steps.refl _) (argsL := [(.int (0 : Int32)), (.int (0 : Int32))]) (rest := []) (lenOf pd_2 rfl) rfl (by show 2 * 0 + _ ≤ _; exact Nat.le_of_eq rfl) (hb hby d10_19) (fun _ _ => ⟨rfl, e1, (by decide : 0 + 0 ≤ _), (by decide : 0 + 0 ≤ _)⟩)
  dsimp only [Pt.U, Pt.locs, Pt.cells, Pt.slots] at X3 l3 y3 z3 st3 hQ3
  subst l3 y3 z3
  obtain ⟨rfl, N3q, e3⟩ := hQ3
  have N3 := Fr.app N1 N3q
  replace X3 : Stand p l e ({ frames := 2, cells := 0, slots := 0, locals := 34 } : Room) s m _ below meth c T3 _ 0 0 := X3
  refine own_go (fun t_ k => st3.trans k) ?_
  show WP p e below _ (T3.setTop (mkF m 24 #[.val (.ref a1), .val (.int (0 : Int32)), .val (.int (1 : Int32)), .val (.int p4), .val (.int (0 : Int32))] [(.int (c0.toUInt32.toUInt16.toUInt32.toInt32))]))
  refine own_go (fun t_ k => XS.iloadN X3.here hx rfl (hb hby d10_24) rfl k) ?_
  show WP p e below _ (T3.setTop (mkF m 25 #[.val (.ref a1), .val (.int (0 : Int32)), .val (.int (1 : Int32)), .val (.int p4), .val (.int (0 : Int32))] [(.int p4), (.int (c0.toUInt32.toUInt16.toUInt32.toInt32))]))
  have hc25_4 : ((c0.toUInt32.toUInt16.toUInt32.toInt32) = p4) := hp
  refine own_go (fun t_ k => XS.icmpNo X3.here hx rfl (hb hby d10_25) rfl (teq hc25_4).2 k) ?_
  show WP p e below _ (T3.setTop (mkF m 28 #[.val (.ref a1), .val (.int (0 : Int32)), .val (.int (1 : Int32)), .val (.int p4), .val (.int (0 : Int32))] []))
  refine own_go (fun t_ k => XS.iload X3.here hx rfl (hb hby d10_28) rfl k) ?_
  show WP p e below _ (T3.setTop (mkF m 30 #[.val (.ref a1), .val (.int (0 : Int32)), .val (.int (1 : Int32)), .val (.int p4), .val (.int (0 : Int32))] [(.int (0 : Int32))]))
  refine own_go (fun t_ k => XS.goto X3.here hx rfl (pc0 := 30) (pc' := 38) rfl (hb hby d10_30) (by decide) (by decide) k) ?_
  show WP p e below _ (T3.setTop (mkF m 38 #[.val (.ref a1), .val (.int (0 : Int32)), .val (.int (1 : Int32)), .val (.int p4), .val (.int (0 : Int32))] [(.int (0 : Int32))]))
  exact own_retI X3 hx Bd.notSynchronized Bd.returns (hb hby d10_38) (show PQ h0 n0 (.int (0 : Int32)) _ _ _ from ⟨rfl, N3, e3⟩) (by decide) (by decide)
theorem pd_4 : parseMethodDescriptor "(Lcom/example/cairn/cairn/ArrayValues;IIC)I" = some ⟨[(.object "com/example/cairn/cairn/ArrayValues"), .int, .int, .char], some .int⟩ := by decide +kernel
theorem d9_0 : decode prog_3_method_14_code 0 = .ok (.aload_n 0, 1) := by decide +kernel
theorem d9_1 : decode prog_3_method_14_code 1 = .ok (.iconst 0, 1) := by decide +kernel
theorem d9_2 : decode prog_3_method_14_code 2 = .ok (.aload_n 0, 1) := by decide +kernel
theorem d9_3 : decode prog_3_method_14_code 3 = .ok (.getfield 26, 3) := by decide +kernel
theorem d9_6 : decode prog_3_method_14_code 6 = .ok (.iload_n 1, 1) := by decide +kernel
theorem d9_7 : decode prog_3_method_14_code 7 = .ok (.invokestatic 84, 3) := by decide +kernel
theorem d9_10 : decode prog_3_method_14_code 10 = .ok (.ireturn, 1) := by decide +kernel
theorem ef_rm_iy (m : MethodId) (x0 : Addr) (x1 : Int32) : entryFrame m #[(.ref x0), (.int x1)] 2 = mkF m 0 #[.val (.ref x0), .val (.int x1)] [] := by first | (simp [entryFrame, mkF, argsToLocals, Value.category]; done) | rfl
set_option maxRecDepth 65536 in
set_option maxHeartbeats 40000000 in
theorem rm_iy (l : Launch) (Z : State) (a0 : Array Value) (hw : ∀ d ∈ tables_1, d.before a0 Z = true) (ws : List Jvm.Cond) (a1 : Addr) (p2 : Int32) (t : Addr) (k : ClassId) (u : Addr) (ku : ClassId) (c0 : Int32) (c1 : Int32) (c2 : Int32) (c3 : Int32) (h0 : Heap) (n0 : Nat) (G : AC Z h0 a1 t k u ku (1 : Int32) c0 c1 c2 c3) (hp : (c0.toUInt32.toUInt16.toUInt32.toInt32) = p2) :
    MetFree l (⟨"com/example/cairn/cairn/ArrayContainer", "indexOf", "(C)I"⟩ : MethodName) (head1 (Jvm.Cond.code (⟨"com/example/cairn/cairn/ArrayContainer", "indexOf", "(C)I"⟩ : MethodName) prog_3_method_14_code 2 (some .int) :: ws) ({ frames := 3, cells := 0, slots := 0, locals := 50 } : Room)) (fun a U => a = #[(.ref a1), (.int p2)] ∧ Z.Warmed39 U.vm ∧ U.heap = h0) (fun _ _ _ _ _ => True) (fun _ U o U' => ∃ v L, o = .returned v ∧ (PQ h0 n0 (.int (0 : Int32))) v U'.heap L ∧ FrameEnd U o U' L ({ frames := 3, cells := 0, slots := 0, locals := 50 } : Room).cells ({ frames := 3, cells := 0, slots := 0, locals := 50 } : Room).slots) := by
  refine MetFree.of_bodySF (plainFor_of_name pn_2) hisR ?_
  intro p e s m args below meth c s₁ Bd hml0 hP hK
  obtain ⟨rfl, hZ, hh⟩ := hP
  have hx := Bd.exec
  have hby := Bd.bytes
  have hml : c.maxLocals = 2 := hml0
  have hown : s.vm.findClass "com/example/cairn/cairn/ArrayContainer" = some m.cls := findClass_of_methodNamed Bd.named
  have hnm := (name_of_methodNamed Bd.named Bd.method).1
  have X0 : Stand p l e ({ frames := 3, cells := 0, slots := 0, locals := 50 } : Room) s m #[(.ref a1), (.int p2)] below meth c s₁ [] 0 0 := Stand.of_body Bd
  have e0 : s₁.heap = h0 := by rw [← hh, Bd.state]; rfl
  have N0 := Fr.nil n0
  show WP p e below (GG (PQ h0 n0 (.int (0 : Int32))) s ({ frames := 3, cells := 0, slots := 0, locals := 50 } : Room).cells ({ frames := 3, cells := 0, slots := 0, locals := 50 } : Room).slots) (s₁.setTop (entryFrame m #[(.ref a1), (.int p2)] 2))
  rw [ef_rm_iy m a1 p2]
  obtain ⟨E_a, F_v, F_c, F_o, F_h, V_t, V_u, ne_t, ne_u, ne_ut⟩ := id G
  show WP p e below _ (s₁.setTop (mkF m 0 #[.val (.ref a1), .val (.int p2)] []))
  refine own_go (fun t_ k => XS.aloadN X0.here hx rfl (hb hby d9_0) rfl rfl k) ?_
  show WP p e below _ (s₁.setTop (mkF m 1 #[.val (.ref a1), .val (.int p2)] [(.ref a1)]))
  refine own_go (fun t_ k => XS.iconst X0.here hx rfl (hb hby d9_1) k) ?_
  show WP p e below _ (s₁.setTop (mkF m 2 #[.val (.ref a1), .val (.int p2)] [(.int (0 : Int32)), (.ref a1)]))
  refine own_go (fun t_ k => XS.aloadN X0.here hx rfl (hb hby d9_2) rfl rfl k) ?_
  show WP p e below _ (s₁.setTop (mkF m 3 #[.val (.ref a1), .val (.int p2)] [(.ref a1), (.int (0 : Int32)), (.ref a1)]))
  obtain ⟨T1, X1, e1, st1⟩ := getF X0 hx hZ hown (host := "") (Or.inl (hw _ (List.mem_of_getElem? (i := 27) rfl))) Via.refl e0 F_c (g := (mkF m 3 #[.val (.ref a1), .val (.int p2)] [(.ref a1), (.int (0 : Int32)), (.ref a1)])) rfl rfl (hb hby d9_3)
  refine own_go st1 ?_
  show WP p e below _ (T1.setTop (mkF m 6 #[.val (.ref a1), .val (.int p2)] [(.int (1 : Int32)), (.int (0 : Int32)), (.ref a1)]))
  refine own_go (fun t_ k => XS.iloadN X1.here hx rfl (hb hby d9_6) rfl k) ?_
  show WP p e below _ (T1.setTop (mkF m 7 #[.val (.ref a1), .val (.int p2)] [(.int p2), (.int (1 : Int32)), (.int (0 : Int32)), (.ref a1)]))
  obtain ⟨_, _, ⟨T2, L2, k2, n2⟩, -, X2, ⟨Lc2, hQ2, l2, y2, z2⟩, st2⟩ := Jvm.LawKit.callS X1 hx (y := (⟨"com/example/cairn/cairn/ArrayValues", "indexOf", "(Lcom/example/cairn/cairn/ArrayValues;IIC)I"⟩ : MethodName)) hown (mvT hZ (hw _ (List.mem_of_getElem? (i := 57) rfl))) (mvT hZ (hw _ (List.mem_of_getElem? (i := 58) rfl))) (mvT hZ (hw _ (List.mem_of_getElem? (i := 59) rfl))) (mvT hZ (hw _ (List.mem_of_getElem? (i := 60) rfl))) (by decide) (backOf (W := 0) (rm_ix l Z a0 hw [] a1 (0 : Int32) (1 : Int32) p2 t k u ku c0 c1 c2 c3 h0 n0 G rfl rfl hp) hZ (hw _ (List.mem_of_getElem? (i := 60) rfl)) (hw _ (List.mem_of_getElem? (i := 59) rfl)) (by decide) (by decide)) (g := (mkF m 7 #[.val (.ref a1), .val (.int p2)] [(.int p2), (.int (1 : Int32)), (.int (0 : Int32)), (.ref a1)])) rfl (by rw [hml]; rfl) (argsL := [(.ref a1), (.int (0 : Int32)), (.int (1 : Int32)), (.int p2)]) (rest := []) (lenOf pd_4 rfl) rfl (by show 2 * 0 + _ ≤ _; exact Nat.le_of_eq rfl) (hb hby d9_7) (fun _ _ => ⟨rfl, e1, (by decide : 0 + 0 ≤ _), (by decide : 0 + 0 ≤ _)⟩)
  dsimp only [Pt.U, Pt.locs, Pt.cells, Pt.slots] at X2 l2 y2 z2 st2 hQ2
  subst l2 y2 z2
  obtain ⟨rfl, N2q, e2⟩ := hQ2
  have N2 := Fr.app N0 N2q
  replace X2 : Stand p l e ({ frames := 3, cells := 0, slots := 0, locals := 50 } : Room) s m _ below meth c T2 _ 0 0 := X2
  refine own_go st2 ?_
  show WP p e below _ (T2.setTop (mkF m 10 #[.val (.ref a1), .val (.int p2)] [(.int (0 : Int32))]))
  exact own_retI X2 hx Bd.notSynchronized Bd.returns (hb hby d9_10) (show PQ h0 n0 (.int (0 : Int32)) _ _ _ from ⟨rfl, N2, e2⟩) (by decide) (by decide)
def Q_rm_rv (Z : State) (a1 : Addr) (p2 : Int32) (p3 : Int32) (p4 : Int32) (t : Addr) (k : ClassId) (u : Addr) (ku : ClassId) (c0 : Int32) (c1 : Int32) (c2 : Int32) (c3 : Int32) (h0 : Heap) (n0 : Nat) (v : Option Value) (h : Heap) (L : List Loc) : Prop := v = none ∧ Fr n0 L ∧ Keep h0 h [a1, t] ∧ AC Z h a1 t k u ku (0 : Int32) c0 c1 c2 c3
theorem d13_0 : decode prog_3_method_33_code 0 = .ok (.aload_n 0, 1) := by decide +kernel
theorem d13_1 : decode prog_3_method_33_code 1 = .ok (.getfield 19, 3) := by decide +kernel
theorem d13_4 : decode prog_3_method_33_code 4 = .ok (.arraylength, 1) := by decide +kernel
theorem d13_5 : decode prog_3_method_33_code 5 = .ok (.ifCond .eq 9, 3) := by decide +kernel
theorem d13_14 : decode prog_3_method_33_code 14 = .ok (.aload_n 0, 1) := by decide +kernel
theorem d13_15 : decode prog_3_method_33_code 15 = .ok (.getfield 26, 3) := by decide +kernel
theorem d13_18 : decode prog_3_method_33_code 18 = .ok (.iload_n 2, 1) := by decide +kernel
theorem d13_19 : decode prog_3_method_33_code 19 = .ok (.iload_n 1, 1) := by decide +kernel
theorem d13_20 : decode prog_3_method_33_code 20 = .ok (.isub, 1) := by decide +kernel
theorem d13_21 : decode prog_3_method_33_code 21 = .ok (.isub, 1) := by decide +kernel
theorem d13_22 : decode prog_3_method_33_code 22 = .ok (.iload_n 3, 1) := by decide +kernel
theorem d13_23 : decode prog_3_method_33_code 23 = .ok (.iadd, 1) := by decide +kernel
theorem d13_24 : decode prog_3_method_33_code 24 = .ok (.istore 4, 2) := by decide +kernel
theorem d13_26 : decode prog_3_method_33_code 26 = .ok (.iload 4, 2) := by decide +kernel
theorem d13_28 : decode prog_3_method_33_code 28 = .ok (.aload_n 0, 1) := by decide +kernel
theorem d13_29 : decode prog_3_method_33_code 29 = .ok (.getfield 22, 3) := by decide +kernel
theorem d13_32 : decode prog_3_method_33_code 32 = .ok (.arraylength, 1) := by decide +kernel
theorem d13_33 : decode prog_3_method_33_code 33 = .ok (.if_icmp .le 7, 3) := by decide +kernel
theorem d13_40 : decode prog_3_method_33_code 40 = .ok (.iconst 0, 1) := by decide +kernel
theorem d13_41 : decode prog_3_method_33_code 41 = .ok (.istore 5, 2) := by decide +kernel
theorem d13_43 : decode prog_3_method_33_code 43 = .ok (.iload 5, 2) := by decide +kernel
theorem d13_45 : decode prog_3_method_33_code 45 = .ok (.ifCond .ne 10, 3) := by decide +kernel
theorem d13_48 : decode prog_3_method_33_code 48 = .ok (.aload_n 0, 1) := by decide +kernel
theorem d13_49 : decode prog_3_method_33_code 49 = .ok (.invokevirtual 57, 3) := by decide +kernel
theorem d13_52 : decode prog_3_method_33_code 52 = .ok (.ifCond .eq 53, 3) := by decide +kernel
theorem d13_105 : decode prog_3_method_33_code 105 = .ok (.aload_n 0, 1) := by decide +kernel
theorem d13_106 : decode prog_3_method_33_code 106 = .ok (.getfield 22, 3) := by decide +kernel
theorem d13_109 : decode prog_3_method_33_code 109 = .ok (.iload_n 2, 1) := by decide +kernel
theorem d13_110 : decode prog_3_method_33_code 110 = .ok (.aload_n 0, 1) := by decide +kernel
theorem d13_111 : decode prog_3_method_33_code 111 = .ok (.getfield 22, 3) := by decide +kernel
theorem d13_114 : decode prog_3_method_33_code 114 = .ok (.iload_n 1, 1) := by decide +kernel
theorem d13_115 : decode prog_3_method_33_code 115 = .ok (.iload_n 3, 1) := by decide +kernel
theorem d13_116 : decode prog_3_method_33_code 116 = .ok (.iadd, 1) := by decide +kernel
theorem d13_117 : decode prog_3_method_33_code 117 = .ok (.aload_n 0, 1) := by decide +kernel
theorem d13_118 : decode prog_3_method_33_code 118 = .ok (.getfield 26, 3) := by decide +kernel
theorem d13_121 : decode prog_3_method_33_code 121 = .ok (.iload_n 2, 1) := by decide +kernel
theorem d13_122 : decode prog_3_method_33_code 122 = .ok (.isub, 1) := by decide +kernel
theorem d13_123 : decode prog_3_method_33_code 123 = .ok (.invokestatic 156, 3) := by decide +kernel
theorem d13_126 : decode prog_3_method_33_code 126 = .ok (.aload_n 0, 1) := by decide +kernel
theorem d13_127 : decode prog_3_method_33_code 127 = .ok (.iload 4, 2) := by decide +kernel
theorem d13_129 : decode prog_3_method_33_code 129 = .ok (.i2c, 1) := by decide +kernel
theorem d13_130 : decode prog_3_method_33_code 130 = .ok (.putfield 26, 3) := by decide +kernel
theorem d13_133 : decode prog_3_method_33_code 133 = .ok (.return_, 1) := by decide +kernel
theorem ef_rm_rv (m : MethodId) (x0 : Addr) (x1 : Int32) (x2 : Int32) (x3 : Int32) : entryFrame m #[(.ref x0), (.int x1), (.int x2), (.int x3)] 7 = mkF m 0 #[.val (.ref x0), .val (.int x1), .val (.int x2), .val (.int x3), .unset, .unset, .unset] [] := by first | (simp [entryFrame, mkF, argsToLocals, Value.category]; done) | rfl
set_option maxRecDepth 65536 in
set_option maxHeartbeats 40000000 in
theorem rm_rv (l : Launch) (Z : State) (a0 : Array Value) (hw : ∀ d ∈ tables_1, d.before a0 Z = true) (ws : List Jvm.Cond) (a1 : Addr) (p2 : Int32) (p3 : Int32) (p4 : Int32) (t : Addr) (k : ClassId) (u : Addr) (ku : ClassId) (c0 : Int32) (c1 : Int32) (c2 : Int32) (c3 : Int32) (h0 : Heap) (n0 : Nat) (G : AC Z h0 a1 t k u ku (1 : Int32) c0 c1 c2 c3) (g_a : n0 ≤ a1) (g_t : n0 ≤ t) (q2 : p2 = (0 : Int32)) (q3 : p3 = (1 : Int32)) (q4 : p4 = (0 : Int32)) :
    MetFree l (⟨"com/example/cairn/cairn/ArrayContainer", "replaceValues", "(III)V"⟩ : MethodName) (head1 (Jvm.Cond.code (⟨"com/example/cairn/cairn/ArrayContainer", "replaceValues", "(III)V"⟩ : MethodName) prog_3_method_33_code 7 none :: ws) ({ frames := 1, cells := 0, slots := 0, locals := 40 } : Room)) (fun a U => a = #[(.ref a1), (.int p2), (.int p3), (.int p4)] ∧ Z.Warmed39 U.vm ∧ U.heap = h0) (fun _ _ _ _ _ => True) (fun _ U o U' => ∃ v L, o = .returned v ∧ (Q_rm_rv Z a1 p2 p3 p4 t k u ku c0 c1 c2 c3 h0 n0) v U'.heap L ∧ FrameEnd U o U' L ({ frames := 1, cells := 0, slots := 0, locals := 40 } : Room).cells ({ frames := 1, cells := 0, slots := 0, locals := 40 } : Room).slots) := by
  refine MetFree.of_bodySF (plainFor_of_name pn_2) hisR ?_
  intro p e s m args below meth c s₁ Bd hml0 hP hK
  obtain ⟨rfl, hZ, hh⟩ := hP
  have hx := Bd.exec
  have hby := Bd.bytes
  have hml : c.maxLocals = 7 := hml0
  have hown : s.vm.findClass "com/example/cairn/cairn/ArrayContainer" = some m.cls := findClass_of_methodNamed Bd.named
  have hnm := (name_of_methodNamed Bd.named Bd.method).1
  have X0 : Stand p l e ({ frames := 1, cells := 0, slots := 0, locals := 40 } : Room) s m #[(.ref a1), (.int p2), (.int p3), (.int p4)] below meth c s₁ [] 0 0 := Stand.of_body Bd
  have e0 : s₁.heap = h0 := by rw [← hh, Bd.state]; rfl
  have N0 := Fr.nil n0
  show WP p e below (GG (Q_rm_rv Z a1 p2 p3 p4 t k u ku c0 c1 c2 c3 h0 n0) s ({ frames := 1, cells := 0, slots := 0, locals := 40 } : Room).cells ({ frames := 1, cells := 0, slots := 0, locals := 40 } : Room).slots) (s₁.setTop (entryFrame m #[(.ref a1), (.int p2), (.int p3), (.int p4)] 7))
  rw [ef_rm_rv m a1 p2 p3 p4]
  obtain ⟨E_a, F_v, F_c, F_o, F_h, V_t, V_u, ne_t, ne_u, ne_ut⟩ := id G
  subst q2
  subst q3
  subst q4
  show WP p e below _ (s₁.setTop (mkF m 0 #[.val (.ref a1), .val (.int (0 : Int32)), .val (.int (1 : Int32)), .val (.int (0 : Int32)), .unset, .unset, .unset] []))
  refine own_go (fun t_ k => XS.aloadN X0.here hx rfl (hb hby d13_0) rfl rfl k) ?_
  show WP p e below _ (s₁.setTop (mkF m 1 #[.val (.ref a1), .val (.int (0 : Int32)), .val (.int (1 : Int32)), .val (.int (0 : Int32)), .unset, .unset, .unset] [(.ref a1)]))
  obtain ⟨T1, X1, e1, st1⟩ := getF X0 hx hZ hown (host := "") (Or.inl (hw _ (List.mem_of_getElem? (i := 22) rfl))) Via.refl e0 F_o (g := (mkF m 1 #[.val (.ref a1), .val (.int (0 : Int32)), .val (.int (1 : Int32)), .val (.int (0 : Int32)), .unset, .unset, .unset] [(.ref a1)])) rfl rfl (hb hby d13_1)
  refine own_go st1 ?_
  show WP p e below _ (T1.setTop (mkF m 4 #[.val (.ref a1), .val (.int (0 : Int32)), .val (.int (1 : Int32)), .val (.int (0 : Int32)), .unset, .unset, .unset] [(.ref u)]))
  obtain ⟨cl2, Ar2, -, S2, M2, -, -⟩ := id (V_u)
  refine own_go (fun t_ k => X1.arraylength hx (by rw [e1]; exact Ar2.1) (State.isArrayOf_alike hZ.alike Ar2.2.1) (g := (mkF m 4 #[.val (.ref a1), .val (.int (0 : Int32)), .val (.int (1 : Int32)), .val (.int (0 : Int32)), .unset, .unset, .unset] [(.ref u)])) rfl rfl (hb hby d13_4) _ (by rw [len_of S2 M2]; exact k)) ?_
  show WP p e below _ (T1.setTop (mkF m 5 #[.val (.ref a1), .val (.int (0 : Int32)), .val (.int (1 : Int32)), .val (.int (0 : Int32)), .unset, .unset, .unset] [(.int (0 : Int32))]))
  have hc5_3 : ((0 : Int32) = (0 : Int32)) := by decide
  refine own_go (fun t_ k => XS.ifYes X1.here hx rfl (pc0 := 5) (pc' := 14) rfl (hb hby d13_5) rfl ((if0 _ _).trans (teq hc5_3).1) (by decide) (by decide) k) ?_
  show WP p e below _ (T1.setTop (mkF m 14 #[.val (.ref a1), .val (.int (0 : Int32)), .val (.int (1 : Int32)), .val (.int (0 : Int32)), .unset, .unset, .unset] []))
  refine own_go (fun t_ k => XS.aloadN X1.here hx rfl (hb hby d13_14) rfl rfl k) ?_
  show WP p e below _ (T1.setTop (mkF m 15 #[.val (.ref a1), .val (.int (0 : Int32)), .val (.int (1 : Int32)), .val (.int (0 : Int32)), .unset, .unset, .unset] [(.ref a1)]))
  obtain ⟨T4, X4, e4, st4⟩ := getF X1 hx hZ hown (host := "") (Or.inl (hw _ (List.mem_of_getElem? (i := 27) rfl))) Via.refl e1 F_c (g := (mkF m 15 #[.val (.ref a1), .val (.int (0 : Int32)), .val (.int (1 : Int32)), .val (.int (0 : Int32)), .unset, .unset, .unset] [(.ref a1)])) rfl rfl (hb hby d13_15)
  refine own_go st4 ?_
  show WP p e below _ (T4.setTop (mkF m 18 #[.val (.ref a1), .val (.int (0 : Int32)), .val (.int (1 : Int32)), .val (.int (0 : Int32)), .unset, .unset, .unset] [(.int (1 : Int32))]))
  refine own_go (fun t_ k => XS.iloadN X4.here hx rfl (hb hby d13_18) rfl k) ?_
  show WP p e below _ (T4.setTop (mkF m 19 #[.val (.ref a1), .val (.int (0 : Int32)), .val (.int (1 : Int32)), .val (.int (0 : Int32)), .unset, .unset, .unset] [(.int (1 : Int32)), (.int (1 : Int32))]))
  refine own_go (fun t_ k => XS.iloadN X4.here hx rfl (hb hby d13_19) rfl k) ?_
  show WP p e below _ (T4.setTop (mkF m 20 #[.val (.ref a1), .val (.int (0 : Int32)), .val (.int (1 : Int32)), .val (.int (0 : Int32)), .unset, .unset, .unset] [(.int (0 : Int32)), (.int (1 : Int32)), (.int (1 : Int32))]))
  refine own_go (fun t_ k => XS.isub X4.here hx rfl (hb hby d13_20) rfl k) ?_
  show WP p e below _ (T4.setTop (mkF m 21 #[.val (.ref a1), .val (.int (0 : Int32)), .val (.int (1 : Int32)), .val (.int (0 : Int32)), .unset, .unset, .unset] [(.int (1 : Int32)), (.int (1 : Int32))]))
  refine own_go (fun t_ k => XS.isub X4.here hx rfl (hb hby d13_21) rfl k) ?_
  show WP p e below _ (T4.setTop (mkF m 22 #[.val (.ref a1), .val (.int (0 : Int32)), .val (.int (1 : Int32)), .val (.int (0 : Int32)), .unset, .unset, .unset] [(.int (0 : Int32))]))
  refine own_go (fun t_ k => XS.iloadN X4.here hx rfl (hb hby d13_22) rfl k) ?_
  show WP p e below _ (T4.setTop (mkF m 23 #[.val (.ref a1), .val (.int (0 : Int32)), .val (.int (1 : Int32)), .val (.int (0 : Int32)), .unset, .unset, .unset] [(.int (0 : Int32)), (.int (0 : Int32))]))
  refine own_go (fun t_ k => XS.iadd X4.here hx rfl (hb hby d13_23) rfl k) ?_
  show WP p e below _ (T4.setTop (mkF m 24 #[.val (.ref a1), .val (.int (0 : Int32)), .val (.int (1 : Int32)), .val (.int (0 : Int32)), .unset, .unset, .unset] [(.int (0 : Int32))]))
  refine own_go (fun t_ k => XS.istore X4.here hx rfl (hb hby d13_24) rfl (l' := #[.val (.ref a1), .val (.int (0 : Int32)), .val (.int (1 : Int32)), .val (.int (0 : Int32)), .val (.int (0 : Int32)), .unset, .unset]) rfl k) ?_
  show WP p e below _ (T4.setTop (mkF m 26 #[.val (.ref a1), .val (.int (0 : Int32)), .val (.int (1 : Int32)), .val (.int (0 : Int32)), .val (.int (0 : Int32)), .unset, .unset] []))
  refine own_go (fun t_ k => XS.iload X4.here hx rfl (hb hby d13_26) rfl k) ?_
  show WP p e below _ (T4.setTop (mkF m 28 #[.val (.ref a1), .val (.int (0 : Int32)), .val (.int (1 : Int32)), .val (.int (0 : Int32)), .val (.int (0 : Int32)), .unset, .unset] [(.int (0 : Int32))]))
  refine own_go (fun t_ k => XS.aloadN X4.here hx rfl (hb hby d13_28) rfl rfl k) ?_
  show WP p e below _ (T4.setTop (mkF m 29 #[.val (.ref a1), .val (.int (0 : Int32)), .val (.int (1 : Int32)), .val (.int (0 : Int32)), .val (.int (0 : Int32)), .unset, .unset] [(.ref a1), (.int (0 : Int32))]))
  obtain ⟨T5, X5, e5, st5⟩ := getF X4 hx hZ hown (host := "") (Or.inl (hw _ (List.mem_of_getElem? (i := 25) rfl))) Via.refl e4 F_v (g := (mkF m 29 #[.val (.ref a1), .val (.int (0 : Int32)), .val (.int (1 : Int32)), .val (.int (0 : Int32)), .val (.int (0 : Int32)), .unset, .unset] [(.ref a1), (.int (0 : Int32))])) rfl rfl (hb hby d13_29)
  refine own_go st5 ?_
  show WP p e below _ (T5.setTop (mkF m 32 #[.val (.ref a1), .val (.int (0 : Int32)), .val (.int (1 : Int32)), .val (.int (0 : Int32)), .val (.int (0 : Int32)), .unset, .unset] [(.ref t), (.int (0 : Int32))]))
  obtain ⟨cl6, Ar6, -, S6, M6, -, -⟩ := id (V_t)
  refine own_go (fun t_ k => X5.arraylength hx (by rw [e5]; exact Ar6.1) (State.isArrayOf_alike hZ.alike Ar6.2.1) (g := (mkF m 32 #[.val (.ref a1), .val (.int (0 : Int32)), .val (.int (1 : Int32)), .val (.int (0 : Int32)), .val (.int (0 : Int32)), .unset, .unset] [(.ref t), (.int (0 : Int32))])) rfl rfl (hb hby d13_32) _ (by rw [len_of S6 M6]; exact k)) ?_
  show WP p e below _ (T5.setTop (mkF m 33 #[.val (.ref a1), .val (.int (0 : Int32)), .val (.int (1 : Int32)), .val (.int (0 : Int32)), .val (.int (0 : Int32)), .unset, .unset] [(.int (4 : Int32)), (.int (0 : Int32))]))
  have hc33_7 : ¬ ((4 : Int32) < (0 : Int32)) := by decide
  refine own_go (fun t_ k => XS.icmpYes X5.here hx rfl (pc0 := 33) (pc' := 40) rfl (hb hby d13_33) rfl (flt hc33_7).2.2.2 (by decide) (by decide) k) ?_
  show WP p e below _ (T5.setTop (mkF m 40 #[.val (.ref a1), .val (.int (0 : Int32)), .val (.int (1 : Int32)), .val (.int (0 : Int32)), .val (.int (0 : Int32)), .unset, .unset] []))
  refine own_go (fun t_ k => XS.iconst X5.here hx rfl (hb hby d13_40) k) ?_
  show WP p e below _ (T5.setTop (mkF m 41 #[.val (.ref a1), .val (.int (0 : Int32)), .val (.int (1 : Int32)), .val (.int (0 : Int32)), .val (.int (0 : Int32)), .unset, .unset] [(.int (0 : Int32))]))
  refine own_go (fun t_ k => XS.istore X5.here hx rfl (hb hby d13_41) rfl (l' := #[.val (.ref a1), .val (.int (0 : Int32)), .val (.int (1 : Int32)), .val (.int (0 : Int32)), .val (.int (0 : Int32)), .val (.int (0 : Int32)), .unset]) rfl k) ?_
  show WP p e below _ (T5.setTop (mkF m 43 #[.val (.ref a1), .val (.int (0 : Int32)), .val (.int (1 : Int32)), .val (.int (0 : Int32)), .val (.int (0 : Int32)), .val (.int (0 : Int32)), .unset] []))
  refine own_go (fun t_ k => XS.iload X5.here hx rfl (hb hby d13_43) rfl k) ?_
  show WP p e below _ (T5.setTop (mkF m 45 #[.val (.ref a1), .val (.int (0 : Int32)), .val (.int (1 : Int32)), .val (.int (0 : Int32)), .val (.int (0 : Int32)), .val (.int (0 : Int32)), .unset] [(.int (0 : Int32))]))
  have hc45_8 : ((0 : Int32) = (0 : Int32)) := by decide
  refine own_go (fun t_ k => XS.ifNo X5.here hx rfl (hb hby d13_45) rfl ((if0 _ _).trans (teq hc45_8).2) k) ?_
  show WP p e below _ (T5.setTop (mkF m 48 #[.val (.ref a1), .val (.int (0 : Int32)), .val (.int (1 : Int32)), .val (.int (0 : Int32)), .val (.int (0 : Int32)), .val (.int (0 : Int32)), .unset] []))
  refine own_go (fun t_ k => XS.aloadN X5.here hx rfl (hb hby d13_48) rfl rfl k) ?_
  show WP p e below _ (T5.setTop (mkF m 49 #[.val (.ref a1), .val (.int (0 : Int32)), .val (.int (1 : Int32)), .val (.int (0 : Int32)), .val (.int (0 : Int32)), .val (.int (0 : Int32)), .unset] [(.ref a1)]))
  obtain ⟨cq9, kq9, q9a, q9b, q9c⟩ := isOf (T := T5) hZ e5 E_a
  obtain ⟨_, _, ⟨T9, L9, k9, n9⟩, -, X9, ⟨Lc9, hQ9, l9, y9, z9⟩, st9⟩ := X5.virtualBackUp hx (x := (⟨"com/example/cairn/cairn/ArrayContainer", "isShared", "()Z"⟩ : MethodName)) (y := (⟨"com/example/cairn/cairn/Container", "isShared", "()Z"⟩ : MethodName)) (owner := "com/example/cairn/cairn/Container") hown (mvT hZ (hw _ (List.mem_of_getElem? (i := 34) rfl))) (mvT hZ (hw _ (List.mem_of_getElem? (i := 35) rfl))) (mvT hZ (hw _ (List.mem_of_getElem? (i := 36) rfl))) (by decide) (mvT hZ (hw _ (List.mem_of_getElem? (i := 38) rfl))) (mvT hZ (hw _ (List.mem_of_getElem? (i := 37) rfl))) (backOf (W := 0) (rm_sh l Z a0 hw [] a1 h0 n0 F_h) hZ (hw _ (List.mem_of_getElem? (i := 39) rfl)) (hw _ (List.mem_of_getElem? (i := 15) rfl)) (by decide) (by decide)) q9a q9c (g := (mkF m 49 #[.val (.ref a1), .val (.int (0 : Int32)), .val (.int (1 : Int32)), .val (.int (0 : Int32)), .val (.int (0 : Int32)), .val (.int (0 : Int32)), .unset] [(.ref a1)])) rfl (by rw [hml]; rfl) (Steps.refl _) (argsL := []) (rest := []) (lenOf pd_1 rfl) rfl (by show 2 * 0 + _ ≤ _; exact Nat.le_of_eq rfl) (hb hby d13_49) (fun _ _ => ⟨rfl, e5, (by decide : 0 + 0 ≤ _), (by decide : 0 + 0 ≤ _)⟩)
  dsimp only [Pt.U, Pt.locs, Pt.cells, Pt.slots] at X9 l9 y9 z9 st9 hQ9
  subst l9 y9 z9
  obtain ⟨rfl, N9q, e9⟩ := hQ9
  have N9 := Fr.app N0 N9q
  replace X9 : Stand p l e ({ frames := 1, cells := 0, slots := 0, locals := 40 } : Room) s m _ below meth c T9 _ 0 0 := X9
  refine own_go (fun t_ k => st9.trans k) ?_
  show WP p e below _ (T9.setTop (mkF m 52 #[.val (.ref a1), .val (.int (0 : Int32)), .val (.int (1 : Int32)), .val (.int (0 : Int32)), .val (.int (0 : Int32)), .val (.int (0 : Int32)), .unset] [(.int (0 : Int32))]))
  have hc52_10 : ((0 : Int32) = (0 : Int32)) := by decide
  refine own_go (fun t_ k => XS.ifYes X9.here hx rfl (pc0 := 52) (pc' := 105) rfl (hb hby d13_52) rfl ((if0 _ _).trans (teq hc52_10).1) (by decide) (by decide) k) ?_
  show WP p e below _ (T9.setTop (mkF m 105 #[.val (.ref a1), .val (.int (0 : Int32)), .val (.int (1 : Int32)), .val (.int (0 : Int32)), .val (.int (0 : Int32)), .val (.int (0 : Int32)), .unset] []))
  refine own_go (fun t_ k => XS.aloadN X9.here hx rfl (hb hby d13_105) rfl rfl k) ?_
  show WP p e below _ (T9.setTop (mkF m 106 #[.val (.ref a1), .val (.int (0 : Int32)), .val (.int (1 : Int32)), .val (.int (0 : Int32)), .val (.int (0 : Int32)), .val (.int (0 : Int32)), .unset] [(.ref a1)]))
  obtain ⟨T11, X11, e11, st11⟩ := getF X9 hx hZ hown (host := "") (Or.inl (hw _ (List.mem_of_getElem? (i := 25) rfl))) Via.refl e9 F_v (g := (mkF m 106 #[.val (.ref a1), .val (.int (0 : Int32)), .val (.int (1 : Int32)), .val (.int (0 : Int32)), .val (.int (0 : Int32)), .val (.int (0 : Int32)), .unset] [(.ref a1)])) rfl rfl (hb hby d13_106)
  refine own_go st11 ?_
  show WP p e below _ (T11.setTop (mkF m 109 #[.val (.ref a1), .val (.int (0 : Int32)), .val (.int (1 : Int32)), .val (.int (0 : Int32)), .val (.int (0 : Int32)), .val (.int (0 : Int32)), .unset] [(.ref t)]))
  refine own_go (fun t_ k => XS.iloadN X11.here hx rfl (hb hby d13_109) rfl k) ?_
  show WP p e below _ (T11.setTop (mkF m 110 #[.val (.ref a1), .val (.int (0 : Int32)), .val (.int (1 : Int32)), .val (.int (0 : Int32)), .val (.int (0 : Int32)), .val (.int (0 : Int32)), .unset] [(.int (1 : Int32)), (.ref t)]))
  refine own_go (fun t_ k => XS.aloadN X11.here hx rfl (hb hby d13_110) rfl rfl k) ?_
  show WP p e below _ (T11.setTop (mkF m 111 #[.val (.ref a1), .val (.int (0 : Int32)), .val (.int (1 : Int32)), .val (.int (0 : Int32)), .val (.int (0 : Int32)), .val (.int (0 : Int32)), .unset] [(.ref a1), (.int (1 : Int32)), (.ref t)]))
  obtain ⟨T12, X12, e12, st12⟩ := getF X11 hx hZ hown (host := "") (Or.inl (hw _ (List.mem_of_getElem? (i := 25) rfl))) Via.refl e11 F_v (g := (mkF m 111 #[.val (.ref a1), .val (.int (0 : Int32)), .val (.int (1 : Int32)), .val (.int (0 : Int32)), .val (.int (0 : Int32)), .val (.int (0 : Int32)), .unset] [(.ref a1), (.int (1 : Int32)), (.ref t)])) rfl rfl (hb hby d13_111)
  refine own_go st12 ?_
  show WP p e below _ (T12.setTop (mkF m 114 #[.val (.ref a1), .val (.int (0 : Int32)), .val (.int (1 : Int32)), .val (.int (0 : Int32)), .val (.int (0 : Int32)), .val (.int (0 : Int32)), .unset] [(.ref t), (.int (1 : Int32)), (.ref t)]))
  refine own_go (fun t_ k => XS.iloadN X12.here hx rfl (hb hby d13_114) rfl k) ?_
  show WP p e below _ (T12.setTop (mkF m 115 #[.val (.ref a1), .val (.int (0 : Int32)), .val (.int (1 : Int32)), .val (.int (0 : Int32)), .val (.int (0 : Int32)), .val (.int (0 : Int32)), .unset] [(.int (0 : Int32)), (.ref t), (.int (1 : Int32)), (.ref t)]))
  refine own_go (fun t_ k => XS.iloadN X12.here hx rfl (hb hby d13_115) rfl k) ?_
  show WP p e below _ (T12.setTop (mkF m 116 #[.val (.ref a1), .val (.int (0 : Int32)), .val (.int (1 : Int32)), .val (.int (0 : Int32)), .val (.int (0 : Int32)), .val (.int (0 : Int32)), .unset] [(.int (0 : Int32)), (.int (0 : Int32)), (.ref t), (.int (1 : Int32)), (.ref t)]))
  refine own_go (fun t_ k => XS.iadd X12.here hx rfl (hb hby d13_116) rfl k) ?_
  show WP p e below _ (T12.setTop (mkF m 117 #[.val (.ref a1), .val (.int (0 : Int32)), .val (.int (1 : Int32)), .val (.int (0 : Int32)), .val (.int (0 : Int32)), .val (.int (0 : Int32)), .unset] [(.int (0 : Int32)), (.ref t), (.int (1 : Int32)), (.ref t)]))
  refine own_go (fun t_ k => XS.aloadN X12.here hx rfl (hb hby d13_117) rfl rfl k) ?_
  show WP p e below _ (T12.setTop (mkF m 118 #[.val (.ref a1), .val (.int (0 : Int32)), .val (.int (1 : Int32)), .val (.int (0 : Int32)), .val (.int (0 : Int32)), .val (.int (0 : Int32)), .unset] [(.ref a1), (.int (0 : Int32)), (.ref t), (.int (1 : Int32)), (.ref t)]))
  obtain ⟨T13, X13, e13, st13⟩ := getF X12 hx hZ hown (host := "") (Or.inl (hw _ (List.mem_of_getElem? (i := 27) rfl))) Via.refl e12 F_c (g := (mkF m 118 #[.val (.ref a1), .val (.int (0 : Int32)), .val (.int (1 : Int32)), .val (.int (0 : Int32)), .val (.int (0 : Int32)), .val (.int (0 : Int32)), .unset] [(.ref a1), (.int (0 : Int32)), (.ref t), (.int (1 : Int32)), (.ref t)])) rfl rfl (hb hby d13_118)
  refine own_go st13 ?_
  show WP p e below _ (T13.setTop (mkF m 121 #[.val (.ref a1), .val (.int (0 : Int32)), .val (.int (1 : Int32)), .val (.int (0 : Int32)), .val (.int (0 : Int32)), .val (.int (0 : Int32)), .unset] [(.int (1 : Int32)), (.int (0 : Int32)), (.ref t), (.int (1 : Int32)), (.ref t)]))
  refine own_go (fun t_ k => XS.iloadN X13.here hx rfl (hb hby d13_121) rfl k) ?_
  show WP p e below _ (T13.setTop (mkF m 122 #[.val (.ref a1), .val (.int (0 : Int32)), .val (.int (1 : Int32)), .val (.int (0 : Int32)), .val (.int (0 : Int32)), .val (.int (0 : Int32)), .unset] [(.int (1 : Int32)), (.int (1 : Int32)), (.int (0 : Int32)), (.ref t), (.int (1 : Int32)), (.ref t)]))
  refine own_go (fun t_ k => XS.isub X13.here hx rfl (hb hby d13_122) rfl k) ?_
  show WP p e below _ (T13.setTop (mkF m 123 #[.val (.ref a1), .val (.int (0 : Int32)), .val (.int (1 : Int32)), .val (.int (0 : Int32)), .val (.int (0 : Int32)), .val (.int (0 : Int32)), .unset] [(.int (0 : Int32)), (.int (0 : Int32)), (.ref t), (.int (1 : Int32)), (.ref t)]))
  obtain ⟨T14, h14, L14, X14, e14, N14, K14c, V14, st14⟩ := cpA X13 hx hZ hown (hw _ (List.mem_of_getElem? (i := 77) rfl)) (hw _ (List.mem_of_getElem? (i := 80) rfl)) (hw _ (List.mem_of_getElem? (i := 78) rfl)) (hw _ (List.mem_of_getElem? (i := 79) rfl)) e13 (us := []) V_t V_t (Or.inl ⟨rfl, rfl⟩) (by decide) (by decide) (by decide) (by decide) (by decide) (by rfl) (Nat.le_of_ble_eq_true rfl) N9 g_t (g := (mkF m 123 #[.val (.ref a1), .val (.int (0 : Int32)), .val (.int (1 : Int32)), .val (.int (0 : Int32)), .val (.int (0 : Int32)), .val (.int (0 : Int32)), .unset] [(.int (0 : Int32)), (.int (0 : Int32)), (.ref t), (.int (1 : Int32)), (.ref t)])) rfl (by rw [hml]; rfl) rfl (hb hby d13_123) (by decide) (W := 0) (by show 2 * 0 + _ ≤ _; exact Nat.le_of_eq rfl) (by decide)
  replace V14 : Arv Z h14 t k .char (4 : Int32) [(.int c0), (.int c1), (.int c2), (.int c3)] (.int (0 : Int32)) := V14
  refine own_go st14 ?_
  have K14 : Keep h0 h14 [a1, t] := (Keep.refl h0 [a1, t]).trans K14c (allS (Or.inl (List.mem_of_getElem? (i := 1) rfl)) all0)
  show WP p e below _ (T14.setTop (mkF m 126 #[.val (.ref a1), .val (.int (0 : Int32)), .val (.int (1 : Int32)), .val (.int (0 : Int32)), .val (.int (0 : Int32)), .val (.int (0 : Int32)), .unset] []))
  refine own_go (fun t_ k => XS.aloadN X14.here hx rfl (hb hby d13_126) rfl rfl k) ?_
  show WP p e below _ (T14.setTop (mkF m 127 #[.val (.ref a1), .val (.int (0 : Int32)), .val (.int (1 : Int32)), .val (.int (0 : Int32)), .val (.int (0 : Int32)), .val (.int (0 : Int32)), .unset] [(.ref a1)]))
  refine own_go (fun t_ k => XS.iload X14.here hx rfl (hb hby d13_127) rfl k) ?_
  show WP p e below _ (T14.setTop (mkF m 129 #[.val (.ref a1), .val (.int (0 : Int32)), .val (.int (1 : Int32)), .val (.int (0 : Int32)), .val (.int (0 : Int32)), .val (.int (0 : Int32)), .unset] [(.int (0 : Int32)), (.ref a1)]))
  refine own_go (fun t_ k => XS.i2c X14.here hx rfl (hb hby d13_129) rfl k) ?_
  show WP p e below _ (T14.setTop (mkF m 130 #[.val (.ref a1), .val (.int (0 : Int32)), .val (.int (1 : Int32)), .val (.int (0 : Int32)), .val (.int (0 : Int32)), .val (.int (0 : Int32)), .unset] [(.int (0 : Int32)), (.ref a1)]))
  obtain ⟨T15, h15, X15, e15, W15, st15⟩ := putFN X14 hx hZ hown (hw _ (List.mem_of_getElem? (i := 27) rfl)) Via.refl e14 (F_c.keep K14c (ninS ne_t nin0)) (E_a.keep K14c) (Or.inl (hw _ (List.mem_of_getElem? (i := 28) rfl))) (hw _ (List.mem_of_getElem? (i := 7) rfl)) (ty := .char) (v' := (.int (0 : Int32))) (by decide) rfl (by decide) (g := (mkF m 130 #[.val (.ref a1), .val (.int (0 : Int32)), .val (.int (1 : Int32)), .val (.int (0 : Int32)), .val (.int (0 : Int32)), .val (.int (0 : Int32)), .unset] [(.int (0 : Int32)), (.ref a1)])) rfl rfl (hb hby d13_130)
  refine own_go st15 ?_
  have Fw15 := (F_c.keep K14c (ninS ne_t nin0)).same W15
  have N15 := Fr.snoc X15 N14 g_a
  have K15 : Keep h0 h15 [a1, t] := K14.wr W15 (Or.inl (List.mem_of_getElem? (i := 0) rfl))
  show WP p e below _ (T15.setTop (mkF m 133 #[.val (.ref a1), .val (.int (0 : Int32)), .val (.int (1 : Int32)), .val (.int (0 : Int32)), .val (.int (0 : Int32)), .val (.int (0 : Int32)), .unset] []))
  exact own_ret0 X15 hx Bd.notSynchronized Bd.returns (hb hby d13_133) (by rw [e15]; exact ⟨rfl, N15, K15, ⟨((E_a.keep K14c).wr W15), ((F_v.keep K14c (ninS ne_t nin0)).other W15 (Or.inr (slot_ne (Or.inl (hw _ (List.mem_of_getElem? (i := 26) rfl))) (Or.inl (hw _ (List.mem_of_getElem? (i := 28) rfl))) (by decide) (t := (.array .char)) (t' := .char) (by decide) (by decide)))), Fw15, ((F_o.keep K14c (ninS ne_t nin0)).other W15 (Or.inr (slot_ne (Or.inl (hw _ (List.mem_of_getElem? (i := 23) rfl))) (Or.inl (hw _ (List.mem_of_getElem? (i := 28) rfl))) (by decide) (t := (.array .long)) (t' := .char) (by decide) (by decide)))), ((F_h.keep K14c (ninS ne_t nin0)).other W15 (Or.inr (slot_ne (Or.inl (hw _ (List.mem_of_getElem? (i := 41) rfl))) (Or.inl (hw _ (List.mem_of_getElem? (i := 28) rfl))) (by decide) (t := .boolean) (t' := .char) (by decide) (by decide)))), (V14.other W15 (Ne.symm ne_t)), ((V_u.keep K14c (ninS ne_ut nin0)).other W15 ne_u), ne_t, ne_u, ne_ut⟩⟩) (by decide) (by decide)
def Q_rm_rm (Z : State) (a1 : Addr) (p2 : Int32) (t : Addr) (k : ClassId) (u : Addr) (ku : ClassId) (c0 : Int32) (c1 : Int32) (c2 : Int32) (c3 : Int32) (h0 : Heap) (n0 : Nat) (v : Option Value) (h : Heap) (L : List Loc) : Prop := v = some (.ref a1) ∧ Fr n0 L ∧ Keep h0 h [a1, t] ∧ AC Z h a1 t k u ku (0 : Int32) c0 c1 c2 c3
theorem pd_5 : parseMethodDescriptor "(C)I" = some ⟨[.char], some .int⟩ := by decide +kernel
theorem pd_6 : parseMethodDescriptor "(III)V" = some ⟨[.int, .int, .int], none⟩ := by decide +kernel
theorem d8_0 : decode prog_3_method_11_code 0 = .ok (.aload_n 0, 1) := by decide +kernel
theorem d8_1 : decode prog_3_method_11_code 1 = .ok (.iload_n 1, 1) := by decide +kernel
theorem d8_2 : decode prog_3_method_11_code 2 = .ok (.invokevirtual 65, 3) := by decide +kernel
theorem d8_5 : decode prog_3_method_11_code 5 = .ok (.istore_n 2, 1) := by decide +kernel
theorem d8_6 : decode prog_3_method_11_code 6 = .ok (.iload_n 2, 1) := by decide +kernel
theorem d8_7 : decode prog_3_method_11_code 7 = .ok (.ifCond .lt 12, 3) := by decide +kernel
theorem d8_10 : decode prog_3_method_11_code 10 = .ok (.aload_n 0, 1) := by decide +kernel
theorem d8_11 : decode prog_3_method_11_code 11 = .ok (.iload_n 2, 1) := by decide +kernel
theorem d8_12 : decode prog_3_method_11_code 12 = .ok (.iload_n 2, 1) := by decide +kernel
theorem d8_13 : decode prog_3_method_11_code 13 = .ok (.iconst 1, 1) := by decide +kernel
theorem d8_14 : decode prog_3_method_11_code 14 = .ok (.iadd, 1) := by decide +kernel
theorem d8_15 : decode prog_3_method_11_code 15 = .ok (.iconst 0, 1) := by decide +kernel
theorem d8_16 : decode prog_3_method_11_code 16 = .ok (.invokevirtual 76, 3) := by decide +kernel
theorem d8_19 : decode prog_3_method_11_code 19 = .ok (.aload_n 0, 1) := by decide +kernel
theorem d8_20 : decode prog_3_method_11_code 20 = .ok (.areturn, 1) := by decide +kernel
theorem ef_rm_rm (m : MethodId) (x0 : Addr) (x1 : Int32) : entryFrame m #[(.ref x0), (.int x1)] 3 = mkF m 0 #[.val (.ref x0), .val (.int x1), .unset] [] := by first | (simp [entryFrame, mkF, argsToLocals, Value.category]; done) | rfl
set_option maxRecDepth 65536 in
set_option maxHeartbeats 40000000 in
theorem rm_rm (l : Launch) (Z : State) (a0 : Array Value) (hw : ∀ d ∈ tables_1, d.before a0 Z = true) (ws : List Jvm.Cond) (a1 : Addr) (p2 : Int32) (t : Addr) (k : ClassId) (u : Addr) (ku : ClassId) (c0 : Int32) (c1 : Int32) (c2 : Int32) (c3 : Int32) (h0 : Heap) (n0 : Nat) (G : AC Z h0 a1 t k u ku (1 : Int32) c0 c1 c2 c3) (g_a : n0 ≤ a1) (g_t : n0 ≤ t) (hp : (c0.toUInt32.toUInt16.toUInt32.toInt32) = p2) :
    MetFree l (⟨"com/example/cairn/cairn/ArrayContainer", "remove", "(C)Lcom/example/cairn/cairn/Container;"⟩ : MethodName) (head1 (Jvm.Cond.code (⟨"com/example/cairn/cairn/ArrayContainer", "remove", "(C)Lcom/example/cairn/cairn/Container;"⟩ : MethodName) prog_3_method_11_code 3 (some (.object "com/example/cairn/cairn/Container")) :: ws) ({ frames := 4, cells := 0, slots := 0, locals := 63 } : Room)) (fun a U => a = #[(.ref a1), (.int p2)] ∧ Z.Warmed39 U.vm ∧ U.heap = h0) (fun _ _ _ _ _ => True) (fun _ U o U' => ∃ v L, o = .returned v ∧ (Q_rm_rm Z a1 p2 t k u ku c0 c1 c2 c3 h0 n0) v U'.heap L ∧ FrameEnd U o U' L ({ frames := 4, cells := 0, slots := 0, locals := 63 } : Room).cells ({ frames := 4, cells := 0, slots := 0, locals := 63 } : Room).slots) := by
  refine MetFree.of_bodySF (plainFor_of_name pn_2) hisR ?_
  intro p e s m args below meth c s₁ Bd hml0 hP hK
  obtain ⟨rfl, hZ, hh⟩ := hP
  have hx := Bd.exec
  have hby := Bd.bytes
  have hml : c.maxLocals = 3 := hml0
  have hown : s.vm.findClass "com/example/cairn/cairn/ArrayContainer" = some m.cls := findClass_of_methodNamed Bd.named
  have hnm := (name_of_methodNamed Bd.named Bd.method).1
  have X0 : Stand p l e ({ frames := 4, cells := 0, slots := 0, locals := 63 } : Room) s m #[(.ref a1), (.int p2)] below meth c s₁ [] 0 0 := Stand.of_body Bd
  have e0 : s₁.heap = h0 := by rw [← hh, Bd.state]; rfl
  have N0 := Fr.nil n0
  show WP p e below (GG (Q_rm_rm Z a1 p2 t k u ku c0 c1 c2 c3 h0 n0) s ({ frames := 4, cells := 0, slots := 0, locals := 63 } : Room).cells ({ frames := 4, cells := 0, slots := 0, locals := 63 } : Room).slots) (s₁.setTop (entryFrame m #[(.ref a1), (.int p2)] 3))
  rw [ef_rm_rm m a1 p2]
  obtain ⟨E_a, F_v, F_c, F_o, F_h, V_t, V_u, ne_t, ne_u, ne_ut⟩ := id G
  show WP p e below _ (s₁.setTop (mkF m 0 #[.val (.ref a1), .val (.int p2), .unset] []))
  refine own_go (fun t_ k => XS.aloadN X0.here hx rfl (hb hby d8_0) rfl rfl k) ?_
  show WP p e below _ (s₁.setTop (mkF m 1 #[.val (.ref a1), .val (.int p2), .unset] [(.ref a1)]))
  refine own_go (fun t_ k => XS.iloadN X0.here hx rfl (hb hby d8_1) rfl k) ?_
  show WP p e below _ (s₁.setTop (mkF m 2 #[.val (.ref a1), .val (.int p2), .unset] [(.int p2), (.ref a1)]))
  obtain ⟨cq1, kq1, q1a, q1b, q1c⟩ := isOf (T := s₁) hZ e0 E_a
  obtain ⟨_, _, ⟨T1, L1, k1, n1⟩, -, X1, ⟨Lc1, hQ1, l1, y1, z1⟩, st1⟩ := X0.virtualBack hx (y := (⟨"com/example/cairn/cairn/ArrayContainer", "indexOf", "(C)I"⟩ : MethodName)) (z := (⟨"com/example/cairn/cairn/ArrayContainer", "indexOf", "(C)I"⟩ : MethodName)) hown (mvT hZ (hw _ (List.mem_of_getElem? (i := 52) rfl))) (mvT hZ (hw _ (List.mem_of_getElem? (i := 53) rfl))) (notFace_of_selects (args := #[]) (mvT hZ (hw _ (List.mem_of_getElem? (i := 55) rfl)))) (mvT hZ (hw _ (List.mem_of_getElem? (i := 55) rfl))) (mvT hZ (hw _ (List.mem_of_getElem? (i := 54) rfl))) (by decide) (backOf (W := 0) (rm_iy l Z a0 hw [] a1 p2 t k u ku c0 c1 c2 c3 h0 n0 G hp) hZ (hw _ (List.mem_of_getElem? (i := 56) rfl)) (hw _ (List.mem_of_getElem? (i := 8) rfl)) (by decide) (by decide)) q1a q1c (g := (mkF m 2 #[.val (.ref a1), .val (.int p2), .unset] [(.int p2), (.ref a1)])) rfl (by rw [hml]; rfl) (Steps.refl _) (argsL := [(.int p2)]) (rest := []) (lenOf pd_5 rfl) rfl (by show 2 * 0 + _ ≤ _; exact Nat.le_of_eq rfl) (hb hby d8_2) (fun _ _ => ⟨rfl, e0, (by decide : 0 + 0 ≤ _), (by decide : 0 + 0 ≤ _)⟩)
  dsimp only [Pt.U, Pt.locs, Pt.cells, Pt.slots] at X1 l1 y1 z1 st1 hQ1
  subst l1 y1 z1
  obtain ⟨rfl, N1q, e1⟩ := hQ1
  have N1 := Fr.app N0 N1q
  replace X1 : Stand p l e ({ frames := 4, cells := 0, slots := 0, locals := 63 } : Room) s m _ below meth c T1 _ 0 0 := X1
  refine own_go (fun t_ k => st1.trans k) ?_
  show WP p e below _ (T1.setTop (mkF m 5 #[.val (.ref a1), .val (.int p2), .unset] [(.int (0 : Int32))]))
  refine own_go (fun t_ k => XS.istoreN X1.here hx rfl (hb hby d8_5) rfl (l' := #[.val (.ref a1), .val (.int p2), .val (.int (0 : Int32))]) rfl k) ?_
  show WP p e below _ (T1.setTop (mkF m 6 #[.val (.ref a1), .val (.int p2), .val (.int (0 : Int32))] []))
  refine own_go (fun t_ k => XS.iloadN X1.here hx rfl (hb hby d8_6) rfl k) ?_
  show WP p e below _ (T1.setTop (mkF m 7 #[.val (.ref a1), .val (.int p2), .val (.int (0 : Int32))] [(.int (0 : Int32))]))
  have hc7_2 : ¬ ((0 : Int32) < (0 : Int32)) := by decide
  refine own_go (fun t_ k => XS.ifNo X1.here hx rfl (hb hby d8_7) rfl ((if0 _ _).trans (flt hc7_2).1) k) ?_
  show WP p e below _ (T1.setTop (mkF m 10 #[.val (.ref a1), .val (.int p2), .val (.int (0 : Int32))] []))
  refine own_go (fun t_ k => XS.aloadN X1.here hx rfl (hb hby d8_10) rfl rfl k) ?_
  show WP p e below _ (T1.setTop (mkF m 11 #[.val (.ref a1), .val (.int p2), .val (.int (0 : Int32))] [(.ref a1)]))
  refine own_go (fun t_ k => XS.iloadN X1.here hx rfl (hb hby d8_11) rfl k) ?_
  show WP p e below _ (T1.setTop (mkF m 12 #[.val (.ref a1), .val (.int p2), .val (.int (0 : Int32))] [(.int (0 : Int32)), (.ref a1)]))
  refine own_go (fun t_ k => XS.iloadN X1.here hx rfl (hb hby d8_12) rfl k) ?_
  show WP p e below _ (T1.setTop (mkF m 13 #[.val (.ref a1), .val (.int p2), .val (.int (0 : Int32))] [(.int (0 : Int32)), (.int (0 : Int32)), (.ref a1)]))
  refine own_go (fun t_ k => XS.iconst X1.here hx rfl (hb hby d8_13) k) ?_
  show WP p e below _ (T1.setTop (mkF m 14 #[.val (.ref a1), .val (.int p2), .val (.int (0 : Int32))] [(.int (1 : Int32)), (.int (0 : Int32)), (.int (0 : Int32)), (.ref a1)]))
  refine own_go (fun t_ k => XS.iadd X1.here hx rfl (hb hby d8_14) rfl k) ?_
  show WP p e below _ (T1.setTop (mkF m 15 #[.val (.ref a1), .val (.int p2), .val (.int (0 : Int32))] [(.int (1 : Int32)), (.int (0 : Int32)), (.ref a1)]))
  refine own_go (fun t_ k => XS.iconst X1.here hx rfl (hb hby d8_15) k) ?_
  show WP p e below _ (T1.setTop (mkF m 16 #[.val (.ref a1), .val (.int p2), .val (.int (0 : Int32))] [(.int (0 : Int32)), (.int (1 : Int32)), (.int (0 : Int32)), (.ref a1)]))
  obtain ⟨cq3, qq3, qq3'⟩ := E_a.cell
  obtain ⟨_, _, ⟨T3, L3, k3, n3⟩, -, X3, ⟨Lc3, hQ3, l3, y3, z3⟩, st3⟩ := X1.privateBack hx (y := (⟨"com/example/cairn/cairn/ArrayContainer", "replaceValues", "(III)V"⟩ : MethodName)) hown (mvT hZ (hw _ (List.mem_of_getElem? (i := 73) rfl))) (mvT hZ (hw _ (List.mem_of_getElem? (i := 74) rfl))) (own_priv (mvT hZ (hw _ (List.mem_of_getElem? (i := 32) rfl))) rfl (Cond.privateMethod_at (mvP hZ (hw _ (List.mem_of_getElem? (i := 75) rfl)) (args := #[]))) (mvT hZ (hw _ (List.mem_of_getElem? (i := 74) rfl))) (by decide)) (Cond.privateMethod_at (mvP hZ (hw _ (List.mem_of_getElem? (i := 75) rfl)) (args := #[]))) (mvT hZ (hw _ (List.mem_of_getElem? (i := 76) rfl))) (by decide) (backOf (W := 0) (rm_rv l Z a0 hw [] a1 (0 : Int32) (1 : Int32) (0 : Int32) t k u ku c0 c1 c2 c3 h0 n0 G g_a g_t rfl rfl rfl) hZ (hw _ (List.mem_of_getElem? (i := 76) rfl)) (hw _ (List.mem_of_getElem? (i := 8) rfl)) (by decide) (by decide)) (g := (mkF m 16 #[.val (.ref a1), .val (.int p2), .val (.int (0 : Int32))] [(.int (0 : Int32)), (.int (1 : Int32)), (.int (0 : Int32)), (.ref a1)])) rfl (by rw [hml]; rfl) (Steps.refl _) (a := a1) (by rw [e1]; exact qq3) qq3' (argsL := [(.int (0 : Int32)), (.int (1 : Int32)), (.int (0 : Int32))]) (rest := []) (lenOf pd_6 rfl) rfl (by show 2 * 0 + _ ≤ _; exact Nat.le_of_eq rfl) (hb hby d8_16) (fun _ _ => ⟨rfl, e1, (by decide : 0 + 0 ≤ _), (by decide : 0 + 0 ≤ _)⟩)
  dsimp only [Pt.U, Pt.locs, Pt.cells, Pt.slots] at X3 l3 y3 z3 st3 hQ3
  subst l3 y3 z3
  obtain ⟨rfl, N3q, K3c, P3⟩ := hQ3
  have N3 := Fr.app N1 N3q
  replace X3 : Stand p l e ({ frames := 4, cells := 0, slots := 0, locals := 63 } : Room) s m _ below meth c T3 _ 0 0 := X3
  refine own_go (fun t_ k => st3.trans k) ?_
  have K3 : Keep h0 T3.heap [a1, t] := (Keep.refl h0 [a1, t]).trans K3c (allS (Or.inl (List.mem_of_getElem? (i := 0) rfl)) (allS (Or.inl (List.mem_of_getElem? (i := 1) rfl)) all0))
  show WP p e below _ (T3.setTop (mkF m 19 #[.val (.ref a1), .val (.int p2), .val (.int (0 : Int32))] []))
  refine own_go (fun t_ k => XS.aloadN X3.here hx rfl (hb hby d8_19) rfl rfl k) ?_
  show WP p e below _ (T3.setTop (mkF m 20 #[.val (.ref a1), .val (.int p2), .val (.int (0 : Int32))] [(.ref a1)]))
  exact own_retA X3 hx Bd.notSynchronized Bd.returns rfl rfl (hb hby d8_20) (by (try rw [rfl]); exact ⟨rfl, N3, K3, P3⟩) (by decide) (by decide)
def rc0 (c0 c1 c2 c3 : Int32) : Int32 := (0 : Int32)
theorem d7_0 : decode prog_3_method_21_code 0 = .ok (.aload_n 0, 1) := by decide +kernel
theorem d7_1 : decode prog_3_method_21_code 1 = .ok (.getfield 26, 3) := by decide +kernel
theorem d7_4 : decode prog_3_method_21_code 4 = .ok (.ifCond .ne 7, 3) := by decide +kernel
theorem d7_7 : decode prog_3_method_21_code 7 = .ok (.iconst 0, 1) := by decide +kernel
theorem d7_8 : decode prog_3_method_21_code 8 = .ok (.goto 4, 3) := by decide +kernel
theorem d7_12 : decode prog_3_method_21_code 12 = .ok (.istore_n 1, 1) := by decide +kernel
theorem d7_13 : decode prog_3_method_21_code 13 = .ok (.iconst 1, 1) := by decide +kernel
theorem d7_14 : decode prog_3_method_21_code 14 = .ok (.istore_n 2, 1) := by decide +kernel
theorem d7_15 : decode prog_3_method_21_code 15 = .ok (.iload_n 2, 1) := by decide +kernel
theorem d7_16 : decode prog_3_method_21_code 16 = .ok (.aload_n 0, 1) := by decide +kernel
theorem d7_17 : decode prog_3_method_21_code 17 = .ok (.getfield 26, 3) := by decide +kernel
theorem d7_20 : decode prog_3_method_21_code 20 = .ok (.if_icmp .ge 32, 3) := by decide +kernel
theorem d7_52 : decode prog_3_method_21_code 52 = .ok (.iload_n 1, 1) := by decide +kernel
theorem d7_53 : decode prog_3_method_21_code 53 = .ok (.ireturn, 1) := by decide +kernel
theorem ef_rm_rc0 (m : MethodId) (x0 : Addr) : entryFrame m #[(.ref x0)] 3 = mkF m 0 #[.val (.ref x0), .unset, .unset] [] := by first | (simp [entryFrame, mkF, argsToLocals, Value.category]; done) | rfl
set_option maxRecDepth 65536 in
set_option maxHeartbeats 40000000 in
theorem rm_rc0 (l : Launch) (Z : State) (a0 : Array Value) (hw : ∀ d ∈ tables_1, d.before a0 Z = true) (ws : List Jvm.Cond) (a1 : Addr) (t : Addr) (k : ClassId) (u : Addr) (ku : ClassId) (c0 : Int32) (c1 : Int32) (c2 : Int32) (c3 : Int32) (h0 : Heap) (n0 : Nat) (G : AC Z h0 a1 t k u ku (0 : Int32) c0 c1 c2 c3) :
    MetFree l (⟨"com/example/cairn/cairn/ArrayContainer", "runCount", "()I"⟩ : MethodName) (head1 (Jvm.Cond.code (⟨"com/example/cairn/cairn/ArrayContainer", "runCount", "()I"⟩ : MethodName) prog_3_method_21_code 3 (some .int) :: ws) ({ frames := 0, cells := 0, slots := 0, locals := 0 } : Room)) (fun a U => a = #[(.ref a1)] ∧ Z.Warmed39 U.vm ∧ U.heap = h0) (fun _ _ _ _ _ => True) (fun _ U o U' => ∃ v L, o = .returned v ∧ (PQ h0 n0 (.int (rc0 c0 c1 c2 c3))) v U'.heap L ∧ FrameEnd U o U' L ({ frames := 0, cells := 0, slots := 0, locals := 0 } : Room).cells ({ frames := 0, cells := 0, slots := 0, locals := 0 } : Room).slots) := by
  refine MetFree.of_bodySF (plainFor_of_name pn_2) hisR ?_
  intro p e s m args below meth c s₁ Bd hml0 hP hK
  obtain ⟨rfl, hZ, hh⟩ := hP
  have hx := Bd.exec
  have hby := Bd.bytes
  have hml : c.maxLocals = 3 := hml0
  have hown : s.vm.findClass "com/example/cairn/cairn/ArrayContainer" = some m.cls := findClass_of_methodNamed Bd.named
  have hnm := (name_of_methodNamed Bd.named Bd.method).1
  have X0 : Stand p l e ({ frames := 0, cells := 0, slots := 0, locals := 0 } : Room) s m #[(.ref a1)] below meth c s₁ [] 0 0 := Stand.of_body Bd
  have e0 : s₁.heap = h0 := by rw [← hh, Bd.state]; rfl
  have N0 := Fr.nil n0
  show WP p e below (GG (PQ h0 n0 (.int (rc0 c0 c1 c2 c3))) s ({ frames := 0, cells := 0, slots := 0, locals := 0 } : Room).cells ({ frames := 0, cells := 0, slots := 0, locals := 0 } : Room).slots) (s₁.setTop (entryFrame m #[(.ref a1)] 3))
  rw [ef_rm_rc0 m a1]
  obtain ⟨E_a, F_v, F_c, F_o, F_h, V_t, V_u, ne_t, ne_u, ne_ut⟩ := id G
  show WP p e below _ (s₁.setTop (mkF m 0 #[.val (.ref a1), .unset, .unset] []))
  refine own_go (fun t_ k => XS.aloadN X0.here hx rfl (hb hby d7_0) rfl rfl k) ?_
  show WP p e below _ (s₁.setTop (mkF m 1 #[.val (.ref a1), .unset, .unset] [(.ref a1)]))
  obtain ⟨T1, X1, e1, st1⟩ := getF X0 hx hZ hown (host := "") (Or.inl (hw _ (List.mem_of_getElem? (i := 27) rfl))) Via.refl e0 F_c (g := (mkF m 1 #[.val (.ref a1), .unset, .unset] [(.ref a1)])) rfl rfl (hb hby d7_1)
  refine own_go st1 ?_
  show WP p e below _ (T1.setTop (mkF m 4 #[.val (.ref a1), .unset, .unset] [(.int (0 : Int32))]))
  have hc4_2 : ((0 : Int32) = (0 : Int32)) := by decide
  refine own_go (fun t_ k => XS.ifNo X1.here hx rfl (hb hby d7_4) rfl ((if0 _ _).trans (teq hc4_2).2) k) ?_
  show WP p e below _ (T1.setTop (mkF m 7 #[.val (.ref a1), .unset, .unset] []))
  refine own_go (fun t_ k => XS.iconst X1.here hx rfl (hb hby d7_7) k) ?_
  show WP p e below _ (T1.setTop (mkF m 8 #[.val (.ref a1), .unset, .unset] [(.int (0 : Int32))]))
  refine own_go (fun t_ k => XS.goto X1.here hx rfl (pc0 := 8) (pc' := 12) rfl (hb hby d7_8) (by decide) (by decide) k) ?_
  show WP p e below _ (T1.setTop (mkF m 12 #[.val (.ref a1), .unset, .unset] [(.int (0 : Int32))]))
  refine own_go (fun t_ k => XS.istoreN X1.here hx rfl (hb hby d7_12) rfl (l' := #[.val (.ref a1), .val (.int (0 : Int32)), .unset]) rfl k) ?_
  show WP p e below _ (T1.setTop (mkF m 13 #[.val (.ref a1), .val (.int (0 : Int32)), .unset] []))
  refine own_go (fun t_ k => XS.iconst X1.here hx rfl (hb hby d7_13) k) ?_
  show WP p e below _ (T1.setTop (mkF m 14 #[.val (.ref a1), .val (.int (0 : Int32)), .unset] [(.int (1 : Int32))]))
  refine own_go (fun t_ k => XS.istoreN X1.here hx rfl (hb hby d7_14) rfl (l' := #[.val (.ref a1), .val (.int (0 : Int32)), .val (.int (1 : Int32))]) rfl k) ?_
  show WP p e below _ (T1.setTop (mkF m 15 #[.val (.ref a1), .val (.int (0 : Int32)), .val (.int (1 : Int32))] []))
  refine own_go (fun t_ k => XS.iloadN X1.here hx rfl (hb hby d7_15) rfl k) ?_
  show WP p e below _ (T1.setTop (mkF m 16 #[.val (.ref a1), .val (.int (0 : Int32)), .val (.int (1 : Int32))] [(.int (1 : Int32))]))
  refine own_go (fun t_ k => XS.aloadN X1.here hx rfl (hb hby d7_16) rfl rfl k) ?_
  show WP p e below _ (T1.setTop (mkF m 17 #[.val (.ref a1), .val (.int (0 : Int32)), .val (.int (1 : Int32))] [(.ref a1), (.int (1 : Int32))]))
  obtain ⟨T3, X3, e3, st3⟩ := getF X1 hx hZ hown (host := "") (Or.inl (hw _ (List.mem_of_getElem? (i := 27) rfl))) Via.refl e1 F_c (g := (mkF m 17 #[.val (.ref a1), .val (.int (0 : Int32)), .val (.int (1 : Int32))] [(.ref a1), (.int (1 : Int32))])) rfl rfl (hb hby d7_17)
  refine own_go st3 ?_
  show WP p e below _ (T3.setTop (mkF m 20 #[.val (.ref a1), .val (.int (0 : Int32)), .val (.int (1 : Int32))] [(.int (0 : Int32)), (.int (1 : Int32))]))
  have hc20_4 : ¬ ((1 : Int32) < (0 : Int32)) := by decide
  refine own_go (fun t_ k => XS.icmpYes X3.here hx rfl (pc0 := 20) (pc' := 52) rfl (hb hby d7_20) rfl (flt hc20_4).2.1 (by decide) (by decide) k) ?_
  show WP p e below _ (T3.setTop (mkF m 52 #[.val (.ref a1), .val (.int (0 : Int32)), .val (.int (1 : Int32))] []))
  refine own_go (fun t_ k => XS.iloadN X3.here hx rfl (hb hby d7_52) rfl k) ?_
  show WP p e below _ (T3.setTop (mkF m 53 #[.val (.ref a1), .val (.int (0 : Int32)), .val (.int (1 : Int32))] [(.int (0 : Int32))]))
  exact own_retI X3 hx Bd.notSynchronized Bd.returns (hb hby d7_53) (show PQ h0 n0 (.int (rc0 c0 c1 c2 c3)) _ _ _ from ⟨rfl, N0, e3⟩) (by decide) (by decide)
def rc1 (c0 c1 c2 c3 : Int32) : Int32 := (1 : Int32)
theorem d7_11 : decode prog_3_method_21_code 11 = .ok (.iconst 1, 1) := by decide +kernel
theorem ef_rm_rc1 (m : MethodId) (x0 : Addr) : entryFrame m #[(.ref x0)] 3 = mkF m 0 #[.val (.ref x0), .unset, .unset] [] := by first | (simp [entryFrame, mkF, argsToLocals, Value.category]; done) | rfl
set_option maxRecDepth 65536 in
set_option maxHeartbeats 40000000 in
theorem rm_rc1 (l : Launch) (Z : State) (a0 : Array Value) (hw : ∀ d ∈ tables_1, d.before a0 Z = true) (ws : List Jvm.Cond) (a1 : Addr) (t : Addr) (k : ClassId) (u : Addr) (ku : ClassId) (c0 : Int32) (c1 : Int32) (c2 : Int32) (c3 : Int32) (h0 : Heap) (n0 : Nat) (G : AC Z h0 a1 t k u ku (1 : Int32) c0 c1 c2 c3) :
    MetFree l (⟨"com/example/cairn/cairn/ArrayContainer", "runCount", "()I"⟩ : MethodName) (head1 (Jvm.Cond.code (⟨"com/example/cairn/cairn/ArrayContainer", "runCount", "()I"⟩ : MethodName) prog_3_method_21_code 3 (some .int) :: ws) ({ frames := 0, cells := 0, slots := 0, locals := 0 } : Room)) (fun a U => a = #[(.ref a1)] ∧ Z.Warmed39 U.vm ∧ U.heap = h0) (fun _ _ _ _ _ => True) (fun _ U o U' => ∃ v L, o = .returned v ∧ (PQ h0 n0 (.int (rc1 c0 c1 c2 c3))) v U'.heap L ∧ FrameEnd U o U' L ({ frames := 0, cells := 0, slots := 0, locals := 0 } : Room).cells ({ frames := 0, cells := 0, slots := 0, locals := 0 } : Room).slots) := by
  refine MetFree.of_bodySF (plainFor_of_name pn_2) hisR ?_
  intro p e s m args below meth c s₁ Bd hml0 hP hK
  obtain ⟨rfl, hZ, hh⟩ := hP
  have hx := Bd.exec
  have hby := Bd.bytes
  have hml : c.maxLocals = 3 := hml0
  have hown : s.vm.findClass "com/example/cairn/cairn/ArrayContainer" = some m.cls := findClass_of_methodNamed Bd.named
  have hnm := (name_of_methodNamed Bd.named Bd.method).1
  have X0 : Stand p l e ({ frames := 0, cells := 0, slots := 0, locals := 0 } : Room) s m #[(.ref a1)] below meth c s₁ [] 0 0 := Stand.of_body Bd
  have e0 : s₁.heap = h0 := by rw [← hh, Bd.state]; rfl
  have N0 := Fr.nil n0
  show WP p e below (GG (PQ h0 n0 (.int (rc1 c0 c1 c2 c3))) s ({ frames := 0, cells := 0, slots := 0, locals := 0 } : Room).cells ({ frames := 0, cells := 0, slots := 0, locals := 0 } : Room).slots) (s₁.setTop (entryFrame m #[(.ref a1)] 3))
  rw [ef_rm_rc1 m a1]
  obtain ⟨E_a, F_v, F_c, F_o, F_h, V_t, V_u, ne_t, ne_u, ne_ut⟩ := id G
  show WP p e below _ (s₁.setTop (mkF m 0 #[.val (.ref a1), .unset, .unset] []))
  refine own_go (fun t_ k => XS.aloadN X0.here hx rfl (hb hby d7_0) rfl rfl k) ?_
  show WP p e below _ (s₁.setTop (mkF m 1 #[.val (.ref a1), .unset, .unset] [(.ref a1)]))
  obtain ⟨T1, X1, e1, st1⟩ := getF X0 hx hZ hown (host := "") (Or.inl (hw _ (List.mem_of_getElem? (i := 27) rfl))) Via.refl e0 F_c (g := (mkF m 1 #[.val (.ref a1), .unset, .unset] [(.ref a1)])) rfl rfl (hb hby d7_1)
  refine own_go st1 ?_
  show WP p e below _ (T1.setTop (mkF m 4 #[.val (.ref a1), .unset, .unset] [(.int (1 : Int32))]))
  have hc4_2 : ¬ ((1 : Int32) = (0 : Int32)) := by decide
  refine own_go (fun t_ k => XS.ifYes X1.here hx rfl (pc0 := 4) (pc' := 11) rfl (hb hby d7_4) rfl ((if0 _ _).trans (feq hc4_2).2) (by decide) (by decide) k) ?_
  show WP p e below _ (T1.setTop (mkF m 11 #[.val (.ref a1), .unset, .unset] []))
  refine own_go (fun t_ k => XS.iconst X1.here hx rfl (hb hby d7_11) k) ?_
  show WP p e below _ (T1.setTop (mkF m 12 #[.val (.ref a1), .unset, .unset] [(.int (1 : Int32))]))
  refine own_go (fun t_ k => XS.istoreN X1.here hx rfl (hb hby d7_12) rfl (l' := #[.val (.ref a1), .val (.int (1 : Int32)), .unset]) rfl k) ?_
  show WP p e below _ (T1.setTop (mkF m 13 #[.val (.ref a1), .val (.int (1 : Int32)), .unset] []))
  refine own_go (fun t_ k => XS.iconst X1.here hx rfl (hb hby d7_13) k) ?_
  show WP p e below _ (T1.setTop (mkF m 14 #[.val (.ref a1), .val (.int (1 : Int32)), .unset] [(.int (1 : Int32))]))
  refine own_go (fun t_ k => XS.istoreN X1.here hx rfl (hb hby d7_14) rfl (l' := #[.val (.ref a1), .val (.int (1 : Int32)), .val (.int (1 : Int32))]) rfl k) ?_
  show WP p e below _ (T1.setTop (mkF m 15 #[.val (.ref a1), .val (.int (1 : Int32)), .val (.int (1 : Int32))] []))
  refine own_go (fun t_ k => XS.iloadN X1.here hx rfl (hb hby d7_15) rfl k) ?_
  show WP p e below _ (T1.setTop (mkF m 16 #[.val (.ref a1), .val (.int (1 : Int32)), .val (.int (1 : Int32))] [(.int (1 : Int32))]))
  refine own_go (fun t_ k => XS.aloadN X1.here hx rfl (hb hby d7_16) rfl rfl k) ?_
  show WP p e below _ (T1.setTop (mkF m 17 #[.val (.ref a1), .val (.int (1 : Int32)), .val (.int (1 : Int32))] [(.ref a1), (.int (1 : Int32))]))
  obtain ⟨T3, X3, e3, st3⟩ := getF X1 hx hZ hown (host := "") (Or.inl (hw _ (List.mem_of_getElem? (i := 27) rfl))) Via.refl e1 F_c (g := (mkF m 17 #[.val (.ref a1), .val (.int (1 : Int32)), .val (.int (1 : Int32))] [(.ref a1), (.int (1 : Int32))])) rfl rfl (hb hby d7_17)
  refine own_go st3 ?_
  show WP p e below _ (T3.setTop (mkF m 20 #[.val (.ref a1), .val (.int (1 : Int32)), .val (.int (1 : Int32))] [(.int (1 : Int32)), (.int (1 : Int32))]))
  have hc20_4 : ¬ ((1 : Int32) < (1 : Int32)) := by decide
  refine own_go (fun t_ k => XS.icmpYes X3.here hx rfl (pc0 := 20) (pc' := 52) rfl (hb hby d7_20) rfl (flt hc20_4).2.1 (by decide) (by decide) k) ?_
  show WP p e below _ (T3.setTop (mkF m 52 #[.val (.ref a1), .val (.int (1 : Int32)), .val (.int (1 : Int32))] []))
  refine own_go (fun t_ k => XS.iloadN X3.here hx rfl (hb hby d7_52) rfl k) ?_
  show WP p e below _ (T3.setTop (mkF m 53 #[.val (.ref a1), .val (.int (1 : Int32)), .val (.int (1 : Int32))] [(.int (1 : Int32))]))
  exact own_retI X3 hx Bd.notSynchronized Bd.returns (hb hby d7_53) (show PQ h0 n0 (.int (rc1 c0 c1 c2 c3)) _ _ _ from ⟨rfl, N0, e3⟩) (by decide) (by decide)
def rc2 (c0 c1 c2 c3 : Int32) : Int32 := ((1 : Int32) + ((((c0 + (1 : Int32)) - c1).toUInt32 >>> ((31 : Int32) &&& 31).toUInt32).toInt32))
theorem d7_23 : decode prog_3_method_21_code 23 = .ok (.iload_n 1, 1) := by decide +kernel
theorem d7_24 : decode prog_3_method_21_code 24 = .ok (.aload_n 0, 1) := by decide +kernel
theorem d7_25 : decode prog_3_method_21_code 25 = .ok (.getfield 22, 3) := by decide +kernel
theorem d7_28 : decode prog_3_method_21_code 28 = .ok (.iload_n 2, 1) := by decide +kernel
theorem d7_29 : decode prog_3_method_21_code 29 = .ok (.iconst 1, 1) := by decide +kernel
theorem d7_30 : decode prog_3_method_21_code 30 = .ok (.isub, 1) := by decide +kernel
theorem d7_31 : decode prog_3_method_21_code 31 = .ok (.caload, 1) := by decide +kernel
theorem d7_32 : decode prog_3_method_21_code 32 = .ok (.iconst 1, 1) := by decide +kernel
theorem d7_33 : decode prog_3_method_21_code 33 = .ok (.iadd, 1) := by decide +kernel
theorem d7_34 : decode prog_3_method_21_code 34 = .ok (.aload_n 0, 1) := by decide +kernel
theorem d7_35 : decode prog_3_method_21_code 35 = .ok (.getfield 22, 3) := by decide +kernel
theorem d7_38 : decode prog_3_method_21_code 38 = .ok (.iload_n 2, 1) := by decide +kernel
theorem d7_39 : decode prog_3_method_21_code 39 = .ok (.caload, 1) := by decide +kernel
theorem d7_40 : decode prog_3_method_21_code 40 = .ok (.isub, 1) := by decide +kernel
theorem d7_41 : decode prog_3_method_21_code 41 = .ok (.bipush 31, 2) := by decide +kernel
theorem d7_43 : decode prog_3_method_21_code 43 = .ok (.iushr, 1) := by decide +kernel
theorem d7_44 : decode prog_3_method_21_code 44 = .ok (.iadd, 1) := by decide +kernel
theorem d7_45 : decode prog_3_method_21_code 45 = .ok (.istore_n 1, 1) := by decide +kernel
theorem d7_46 : decode prog_3_method_21_code 46 = .ok (.iinc 2 1, 3) := by decide +kernel
theorem d7_49 : decode prog_3_method_21_code 49 = .ok (.goto (-34), 3) := by decide +kernel
theorem ef_rm_rc2 (m : MethodId) (x0 : Addr) : entryFrame m #[(.ref x0)] 3 = mkF m 0 #[.val (.ref x0), .unset, .unset] [] := by first | (simp [entryFrame, mkF, argsToLocals, Value.category]; done) | rfl
set_option maxRecDepth 65536 in
set_option maxHeartbeats 40000000 in
theorem rm_rc2 (l : Launch) (Z : State) (a0 : Array Value) (hw : ∀ d ∈ tables_1, d.before a0 Z = true) (ws : List Jvm.Cond) (a1 : Addr) (t : Addr) (k : ClassId) (u : Addr) (ku : ClassId) (c0 : Int32) (c1 : Int32) (c2 : Int32) (c3 : Int32) (h0 : Heap) (n0 : Nat) (G : AC Z h0 a1 t k u ku (2 : Int32) c0 c1 c2 c3) :
    MetFree l (⟨"com/example/cairn/cairn/ArrayContainer", "runCount", "()I"⟩ : MethodName) (head1 (Jvm.Cond.code (⟨"com/example/cairn/cairn/ArrayContainer", "runCount", "()I"⟩ : MethodName) prog_3_method_21_code 3 (some .int) :: ws) ({ frames := 0, cells := 0, slots := 0, locals := 0 } : Room)) (fun a U => a = #[(.ref a1)] ∧ Z.Warmed39 U.vm ∧ U.heap = h0) (fun _ _ _ _ _ => True) (fun _ U o U' => ∃ v L, o = .returned v ∧ (PQ h0 n0 (.int (rc2 c0 c1 c2 c3))) v U'.heap L ∧ FrameEnd U o U' L ({ frames := 0, cells := 0, slots := 0, locals := 0 } : Room).cells ({ frames := 0, cells := 0, slots := 0, locals := 0 } : Room).slots) := by
  refine MetFree.of_bodySF (plainFor_of_name pn_2) hisR ?_
  intro p e s m args below meth c s₁ Bd hml0 hP hK
  obtain ⟨rfl, hZ, hh⟩ := hP
  have hx := Bd.exec
  have hby := Bd.bytes
  have hml : c.maxLocals = 3 := hml0
  have hown : s.vm.findClass "com/example/cairn/cairn/ArrayContainer" = some m.cls := findClass_of_methodNamed Bd.named
  have hnm := (name_of_methodNamed Bd.named Bd.method).1
  have X0 : Stand p l e ({ frames := 0, cells := 0, slots := 0, locals := 0 } : Room) s m #[(.ref a1)] below meth c s₁ [] 0 0 := Stand.of_body Bd
  have e0 : s₁.heap = h0 := by rw [← hh, Bd.state]; rfl
  have N0 := Fr.nil n0
  show WP p e below (GG (PQ h0 n0 (.int (rc2 c0 c1 c2 c3))) s ({ frames := 0, cells := 0, slots := 0, locals := 0 } : Room).cells ({ frames := 0, cells := 0, slots := 0, locals := 0 } : Room).slots) (s₁.setTop (entryFrame m #[(.ref a1)] 3))
  rw [ef_rm_rc2 m a1]
  obtain ⟨E_a, F_v, F_c, F_o, F_h, V_t, V_u, ne_t, ne_u, ne_ut⟩ := id G
  show WP p e below _ (s₁.setTop (mkF m 0 #[.val (.ref a1), .unset, .unset] []))
  refine own_go (fun t_ k => XS.aloadN X0.here hx rfl (hb hby d7_0) rfl rfl k) ?_
  show WP p e below _ (s₁.setTop (mkF m 1 #[.val (.ref a1), .unset, .unset] [(.ref a1)]))
  obtain ⟨T1, X1, e1, st1⟩ := getF X0 hx hZ hown (host := "") (Or.inl (hw _ (List.mem_of_getElem? (i := 27) rfl))) Via.refl e0 F_c (g := (mkF m 1 #[.val (.ref a1), .unset, .unset] [(.ref a1)])) rfl rfl (hb hby d7_1)
  refine own_go st1 ?_
  show WP p e below _ (T1.setTop (mkF m 4 #[.val (.ref a1), .unset, .unset] [(.int (2 : Int32))]))
  have hc4_2 : ¬ ((2 : Int32) = (0 : Int32)) := by decide
  refine own_go (fun t_ k => XS.ifYes X1.here hx rfl (pc0 := 4) (pc' := 11) rfl (hb hby d7_4) rfl ((if0 _ _).trans (feq hc4_2).2) (by decide) (by decide) k) ?_
  show WP p e below _ (T1.setTop (mkF m 11 #[.val (.ref a1), .unset, .unset] []))
  refine own_go (fun t_ k => XS.iconst X1.here hx rfl (hb hby d7_11) k) ?_
  show WP p e below _ (T1.setTop (mkF m 12 #[.val (.ref a1), .unset, .unset] [(.int (1 : Int32))]))
  refine own_go (fun t_ k => XS.istoreN X1.here hx rfl (hb hby d7_12) rfl (l' := #[.val (.ref a1), .val (.int (1 : Int32)), .unset]) rfl k) ?_
  show WP p e below _ (T1.setTop (mkF m 13 #[.val (.ref a1), .val (.int (1 : Int32)), .unset] []))
  refine own_go (fun t_ k => XS.iconst X1.here hx rfl (hb hby d7_13) k) ?_
  show WP p e below _ (T1.setTop (mkF m 14 #[.val (.ref a1), .val (.int (1 : Int32)), .unset] [(.int (1 : Int32))]))
  refine own_go (fun t_ k => XS.istoreN X1.here hx rfl (hb hby d7_14) rfl (l' := #[.val (.ref a1), .val (.int (1 : Int32)), .val (.int (1 : Int32))]) rfl k) ?_
  show WP p e below _ (T1.setTop (mkF m 15 #[.val (.ref a1), .val (.int (1 : Int32)), .val (.int (1 : Int32))] []))
  refine own_go (fun t_ k => XS.iloadN X1.here hx rfl (hb hby d7_15) rfl k) ?_
  show WP p e below _ (T1.setTop (mkF m 16 #[.val (.ref a1), .val (.int (1 : Int32)), .val (.int (1 : Int32))] [(.int (1 : Int32))]))
  refine own_go (fun t_ k => XS.aloadN X1.here hx rfl (hb hby d7_16) rfl rfl k) ?_
  show WP p e below _ (T1.setTop (mkF m 17 #[.val (.ref a1), .val (.int (1 : Int32)), .val (.int (1 : Int32))] [(.ref a1), (.int (1 : Int32))]))
  obtain ⟨T3, X3, e3, st3⟩ := getF X1 hx hZ hown (host := "") (Or.inl (hw _ (List.mem_of_getElem? (i := 27) rfl))) Via.refl e1 F_c (g := (mkF m 17 #[.val (.ref a1), .val (.int (1 : Int32)), .val (.int (1 : Int32))] [(.ref a1), (.int (1 : Int32))])) rfl rfl (hb hby d7_17)
  refine own_go st3 ?_
  show WP p e below _ (T3.setTop (mkF m 20 #[.val (.ref a1), .val (.int (1 : Int32)), .val (.int (1 : Int32))] [(.int (2 : Int32)), (.int (1 : Int32))]))
  have hc20_4 : ((1 : Int32) < (2 : Int32)) := by decide
  refine own_go (fun t_ k => XS.icmpNo X3.here hx rfl (hb hby d7_20) rfl (tlt hc20_4).2.1 k) ?_
  show WP p e below _ (T3.setTop (mkF m 23 #[.val (.ref a1), .val (.int (1 : Int32)), .val (.int (1 : Int32))] []))
  refine own_go (fun t_ k => XS.iloadN X3.here hx rfl (hb hby d7_23) rfl k) ?_
  show WP p e below _ (T3.setTop (mkF m 24 #[.val (.ref a1), .val (.int (1 : Int32)), .val (.int (1 : Int32))] [(.int (1 : Int32))]))
  refine own_go (fun t_ k => XS.aloadN X3.here hx rfl (hb hby d7_24) rfl rfl k) ?_
  show WP p e below _ (T3.setTop (mkF m 25 #[.val (.ref a1), .val (.int (1 : Int32)), .val (.int (1 : Int32))] [(.ref a1), (.int (1 : Int32))]))
  obtain ⟨T5, X5, e5, st5⟩ := getF X3 hx hZ hown (host := "") (Or.inl (hw _ (List.mem_of_getElem? (i := 25) rfl))) Via.refl e3 F_v (g := (mkF m 25 #[.val (.ref a1), .val (.int (1 : Int32)), .val (.int (1 : Int32))] [(.ref a1), (.int (1 : Int32))])) rfl rfl (hb hby d7_25)
  refine own_go st5 ?_
  show WP p e below _ (T5.setTop (mkF m 28 #[.val (.ref a1), .val (.int (1 : Int32)), .val (.int (1 : Int32))] [(.ref t), (.int (1 : Int32))]))
  refine own_go (fun t_ k => XS.iloadN X5.here hx rfl (hb hby d7_28) rfl k) ?_
  show WP p e below _ (T5.setTop (mkF m 29 #[.val (.ref a1), .val (.int (1 : Int32)), .val (.int (1 : Int32))] [(.int (1 : Int32)), (.ref t), (.int (1 : Int32))]))
  refine own_go (fun t_ k => XS.iconst X5.here hx rfl (hb hby d7_29) k) ?_
  show WP p e below _ (T5.setTop (mkF m 30 #[.val (.ref a1), .val (.int (1 : Int32)), .val (.int (1 : Int32))] [(.int (1 : Int32)), (.int (1 : Int32)), (.ref t), (.int (1 : Int32))]))
  refine own_go (fun t_ k => XS.isub X5.here hx rfl (hb hby d7_30) rfl k) ?_
  show WP p e below _ (T5.setTop (mkF m 31 #[.val (.ref a1), .val (.int (1 : Int32)), .val (.int (1 : Int32))] [(.int (0 : Int32)), (.ref t), (.int (1 : Int32))]))
  obtain ⟨cl6, Ar6, -, S6, M6, H6, -⟩ := id (V_t)
  have hin6 : ¬ ((0 : Int32) < 0 ∨ cl6.slots.size ≤ ((0 : Int32)).toNatClampNeg) := inb_of S6 (⟨by decide, by decide⟩)
  refine own_go (fun t_ k => X5.caload hx (j := (0 : Int32)) (v := (.int c0)) (by rw [e5]; exact Ar6.1) (State.isArrayOf_alike hZ.alike Ar6.2.1) Ar6.2.2 hin6 (H6.at hin6 rfl) (g := (mkF m 31 #[.val (.ref a1), .val (.int (1 : Int32)), .val (.int (1 : Int32))] [(.int (0 : Int32)), (.ref t), (.int (1 : Int32))])) rfl rfl (hb hby d7_31) _ k) ?_
  show WP p e below _ (T5.setTop (mkF m 32 #[.val (.ref a1), .val (.int (1 : Int32)), .val (.int (1 : Int32))] [(.int c0), (.int (1 : Int32))]))
  refine own_go (fun t_ k => XS.iconst X5.here hx rfl (hb hby d7_32) k) ?_
  show WP p e below _ (T5.setTop (mkF m 33 #[.val (.ref a1), .val (.int (1 : Int32)), .val (.int (1 : Int32))] [(.int (1 : Int32)), (.int c0), (.int (1 : Int32))]))
  refine own_go (fun t_ k => XS.iadd X5.here hx rfl (hb hby d7_33) rfl k) ?_
  show WP p e below _ (T5.setTop (mkF m 34 #[.val (.ref a1), .val (.int (1 : Int32)), .val (.int (1 : Int32))] [(.int (c0 + (1 : Int32))), (.int (1 : Int32))]))
  refine own_go (fun t_ k => XS.aloadN X5.here hx rfl (hb hby d7_34) rfl rfl k) ?_
  show WP p e below _ (T5.setTop (mkF m 35 #[.val (.ref a1), .val (.int (1 : Int32)), .val (.int (1 : Int32))] [(.ref a1), (.int (c0 + (1 : Int32))), (.int (1 : Int32))]))
  obtain ⟨T7, X7, e7, st7⟩ := getF X5 hx hZ hown (host := "") (Or.inl (hw _ (List.mem_of_getElem? (i := 25) rfl))) Via.refl e5 F_v (g := (mkF m 35 #[.val (.ref a1), .val (.int (1 : Int32)), .val (.int (1 : Int32))] [(.ref a1), (.int (c0 + (1 : Int32))), (.int (1 : Int32))])) rfl rfl (hb hby d7_35)
  refine own_go st7 ?_
  show WP p e below _ (T7.setTop (mkF m 38 #[.val (.ref a1), .val (.int (1 : Int32)), .val (.int (1 : Int32))] [(.ref t), (.int (c0 + (1 : Int32))), (.int (1 : Int32))]))
  refine own_go (fun t_ k => XS.iloadN X7.here hx rfl (hb hby d7_38) rfl k) ?_
  show WP p e below _ (T7.setTop (mkF m 39 #[.val (.ref a1), .val (.int (1 : Int32)), .val (.int (1 : Int32))] [(.int (1 : Int32)), (.ref t), (.int (c0 + (1 : Int32))), (.int (1 : Int32))]))
  obtain ⟨cl8, Ar8, -, S8, M8, H8, -⟩ := id (V_t)
  have hin8 : ¬ ((1 : Int32) < 0 ∨ cl8.slots.size ≤ ((1 : Int32)).toNatClampNeg) := inb_of S8 (⟨by decide, by decide⟩)
  refine own_go (fun t_ k => X7.caload hx (j := (1 : Int32)) (v := (.int c1)) (by rw [e7]; exact Ar8.1) (State.isArrayOf_alike hZ.alike Ar8.2.1) Ar8.2.2 hin8 (H8.at hin8 rfl) (g := (mkF m 39 #[.val (.ref a1), .val (.int (1 : Int32)), .val (.int (1 : Int32))] [(.int (1 : Int32)), (.ref t), (.int (c0 + (1 : Int32))), (.int (1 : Int32))])) rfl rfl (hb hby d7_39) _ k) ?_
  show WP p e below _ (T7.setTop (mkF m 40 #[.val (.ref a1), .val (.int (1 : Int32)), .val (.int (1 : Int32))] [(.int c1), (.int (c0 + (1 : Int32))), (.int (1 : Int32))]))
  refine own_go (fun t_ k => XS.isub X7.here hx rfl (hb hby d7_40) rfl k) ?_
  show WP p e below _ (T7.setTop (mkF m 41 #[.val (.ref a1), .val (.int (1 : Int32)), .val (.int (1 : Int32))] [(.int ((c0 + (1 : Int32)) - c1)), (.int (1 : Int32))]))
  refine own_go (fun t_ k => XS.bipush X7.here hx rfl (hb hby d7_41) k) ?_
  show WP p e below _ (T7.setTop (mkF m 43 #[.val (.ref a1), .val (.int (1 : Int32)), .val (.int (1 : Int32))] [(.int (31 : Int32)), (.int ((c0 + (1 : Int32)) - c1)), (.int (1 : Int32))]))
  refine own_go (fun t_ k => XS.iushr X7.here hx rfl (hb hby d7_43) rfl k) ?_
  show WP p e below _ (T7.setTop (mkF m 44 #[.val (.ref a1), .val (.int (1 : Int32)), .val (.int (1 : Int32))] [(.int ((((c0 + (1 : Int32)) - c1).toUInt32 >>> ((31 : Int32) &&& 31).toUInt32).toInt32)), (.int (1 : Int32))]))
  refine own_go (fun t_ k => XS.iadd X7.here hx rfl (hb hby d7_44) rfl k) ?_
  show WP p e below _ (T7.setTop (mkF m 45 #[.val (.ref a1), .val (.int (1 : Int32)), .val (.int (1 : Int32))] [(.int ((1 : Int32) + ((((c0 + (1 : Int32)) - c1).toUInt32 >>> ((31 : Int32) &&& 31).toUInt32).toInt32)))]))
  refine own_go (fun t_ k => XS.istoreN X7.here hx rfl (hb hby d7_45) rfl (l' := #[.val (.ref a1), .val (.int ((1 : Int32) + ((((c0 + (1 : Int32)) - c1).toUInt32 >>> ((31 : Int32) &&& 31).toUInt32).toInt32))), .val (.int (1 : Int32))]) rfl k) ?_
  show WP p e below _ (T7.setTop (mkF m 46 #[.val (.ref a1), .val (.int ((1 : Int32) + ((((c0 + (1 : Int32)) - c1).toUInt32 >>> ((31 : Int32) &&& 31).toUInt32).toInt32))), .val (.int (1 : Int32))] []))
  refine own_go (fun t_ k => XS.iinc X7.here hx rfl (hb hby d7_46) rfl (l' := #[.val (.ref a1), .val (.int ((1 : Int32) + ((((c0 + (1 : Int32)) - c1).toUInt32 >>> ((31 : Int32) &&& 31).toUInt32).toInt32))), .val (.int (2 : Int32))]) rfl k) ?_
  show WP p e below _ (T7.setTop (mkF m 49 #[.val (.ref a1), .val (.int ((1 : Int32) + ((((c0 + (1 : Int32)) - c1).toUInt32 >>> ((31 : Int32) &&& 31).toUInt32).toInt32))), .val (.int (2 : Int32))] []))
  refine own_go (fun t_ k => XS.goto X7.here hx rfl (pc0 := 49) (pc' := 15) rfl (hb hby d7_49) (by decide) (by decide) k) ?_
  show WP p e below _ (T7.setTop (mkF m 15 #[.val (.ref a1), .val (.int ((1 : Int32) + ((((c0 + (1 : Int32)) - c1).toUInt32 >>> ((31 : Int32) &&& 31).toUInt32).toInt32))), .val (.int (2 : Int32))] []))
  refine own_go (fun t_ k => XS.iloadN X7.here hx rfl (hb hby d7_15) rfl k) ?_
  show WP p e below _ (T7.setTop (mkF m 16 #[.val (.ref a1), .val (.int ((1 : Int32) + ((((c0 + (1 : Int32)) - c1).toUInt32 >>> ((31 : Int32) &&& 31).toUInt32).toInt32))), .val (.int (2 : Int32))] [(.int (2 : Int32))]))
  refine own_go (fun t_ k => XS.aloadN X7.here hx rfl (hb hby d7_16) rfl rfl k) ?_
  show WP p e below _ (T7.setTop (mkF m 17 #[.val (.ref a1), .val (.int ((1 : Int32) + ((((c0 + (1 : Int32)) - c1).toUInt32 >>> ((31 : Int32) &&& 31).toUInt32).toInt32))), .val (.int (2 : Int32))] [(.ref a1), (.int (2 : Int32))]))
  obtain ⟨T9, X9, e9, st9⟩ := getF X7 hx hZ hown (host := "") (Or.inl (hw _ (List.mem_of_getElem? (i := 27) rfl))) Via.refl e7 F_c (g := (mkF m 17 #[.val (.ref a1), .val (.int ((1 : Int32) + ((((c0 + (1 : Int32)) - c1).toUInt32 >>> ((31 : Int32) &&& 31).toUInt32).toInt32))), .val (.int (2 : Int32))] [(.ref a1), (.int (2 : Int32))])) rfl rfl (hb hby d7_17)
  refine own_go st9 ?_
  show WP p e below _ (T9.setTop (mkF m 20 #[.val (.ref a1), .val (.int ((1 : Int32) + ((((c0 + (1 : Int32)) - c1).toUInt32 >>> ((31 : Int32) &&& 31).toUInt32).toInt32))), .val (.int (2 : Int32))] [(.int (2 : Int32)), (.int (2 : Int32))]))
  have hc20_10 : ¬ ((2 : Int32) < (2 : Int32)) := by decide
  refine own_go (fun t_ k => XS.icmpYes X9.here hx rfl (pc0 := 20) (pc' := 52) rfl (hb hby d7_20) rfl (flt hc20_10).2.1 (by decide) (by decide) k) ?_
  show WP p e below _ (T9.setTop (mkF m 52 #[.val (.ref a1), .val (.int ((1 : Int32) + ((((c0 + (1 : Int32)) - c1).toUInt32 >>> ((31 : Int32) &&& 31).toUInt32).toInt32))), .val (.int (2 : Int32))] []))
  refine own_go (fun t_ k => XS.iloadN X9.here hx rfl (hb hby d7_52) rfl k) ?_
  show WP p e below _ (T9.setTop (mkF m 53 #[.val (.ref a1), .val (.int ((1 : Int32) + ((((c0 + (1 : Int32)) - c1).toUInt32 >>> ((31 : Int32) &&& 31).toUInt32).toInt32))), .val (.int (2 : Int32))] [(.int ((1 : Int32) + ((((c0 + (1 : Int32)) - c1).toUInt32 >>> ((31 : Int32) &&& 31).toUInt32).toInt32)))]))
  exact own_retI X9 hx Bd.notSynchronized Bd.returns (hb hby d7_53) (show PQ h0 n0 (.int (rc2 c0 c1 c2 c3)) _ _ _ from ⟨rfl, N0, e9⟩) (by decide) (by decide)
def rc3 (c0 c1 c2 c3 : Int32) : Int32 := (((1 : Int32) + ((((c0 + (1 : Int32)) - c1).toUInt32 >>> ((31 : Int32) &&& 31).toUInt32).toInt32)) + ((((c1 + (1 : Int32)) - c2).toUInt32 >>> ((31 : Int32) &&& 31).toUInt32).toInt32))
theorem ef_rm_rc3 (m : MethodId) (x0 : Addr) : entryFrame m #[(.ref x0)] 3 = mkF m 0 #[.val (.ref x0), .unset, .unset] [] := by first | (simp [entryFrame, mkF, argsToLocals, Value.category]; done) | rfl
set_option maxRecDepth 65536 in
set_option maxHeartbeats 40000000 in
theorem rm_rc3 (l : Launch) (Z : State) (a0 : Array Value) (hw : ∀ d ∈ tables_1, d.before a0 Z = true) (ws : List Jvm.Cond) (a1 : Addr) (t : Addr) (k : ClassId) (u : Addr) (ku : ClassId) (c0 : Int32) (c1 : Int32) (c2 : Int32) (c3 : Int32) (h0 : Heap) (n0 : Nat) (G : AC Z h0 a1 t k u ku (3 : Int32) c0 c1 c2 c3) :
    MetFree l (⟨"com/example/cairn/cairn/ArrayContainer", "runCount", "()I"⟩ : MethodName) (head1 (Jvm.Cond.code (⟨"com/example/cairn/cairn/ArrayContainer", "runCount", "()I"⟩ : MethodName) prog_3_method_21_code 3 (some .int) :: ws) ({ frames := 0, cells := 0, slots := 0, locals := 0 } : Room)) (fun a U => a = #[(.ref a1)] ∧ Z.Warmed39 U.vm ∧ U.heap = h0) (fun _ _ _ _ _ => True) (fun _ U o U' => ∃ v L, o = .returned v ∧ (PQ h0 n0 (.int (rc3 c0 c1 c2 c3))) v U'.heap L ∧ FrameEnd U o U' L ({ frames := 0, cells := 0, slots := 0, locals := 0 } : Room).cells ({ frames := 0, cells := 0, slots := 0, locals := 0 } : Room).slots) := by
  refine MetFree.of_bodySF (plainFor_of_name pn_2) hisR ?_
  intro p e s m args below meth c s₁ Bd hml0 hP hK
  obtain ⟨rfl, hZ, hh⟩ := hP
  have hx := Bd.exec
  have hby := Bd.bytes
  have hml : c.maxLocals = 3 := hml0
  have hown : s.vm.findClass "com/example/cairn/cairn/ArrayContainer" = some m.cls := findClass_of_methodNamed Bd.named
  have hnm := (name_of_methodNamed Bd.named Bd.method).1
  have X0 : Stand p l e ({ frames := 0, cells := 0, slots := 0, locals := 0 } : Room) s m #[(.ref a1)] below meth c s₁ [] 0 0 := Stand.of_body Bd
  have e0 : s₁.heap = h0 := by rw [← hh, Bd.state]; rfl
  have N0 := Fr.nil n0
  show WP p e below (GG (PQ h0 n0 (.int (rc3 c0 c1 c2 c3))) s ({ frames := 0, cells := 0, slots := 0, locals := 0 } : Room).cells ({ frames := 0, cells := 0, slots := 0, locals := 0 } : Room).slots) (s₁.setTop (entryFrame m #[(.ref a1)] 3))
  rw [ef_rm_rc3 m a1]
  obtain ⟨E_a, F_v, F_c, F_o, F_h, V_t, V_u, ne_t, ne_u, ne_ut⟩ := id G
  show WP p e below _ (s₁.setTop (mkF m 0 #[.val (.ref a1), .unset, .unset] []))
  refine own_go (fun t_ k => XS.aloadN X0.here hx rfl (hb hby d7_0) rfl rfl k) ?_
  show WP p e below _ (s₁.setTop (mkF m 1 #[.val (.ref a1), .unset, .unset] [(.ref a1)]))
  obtain ⟨T1, X1, e1, st1⟩ := getF X0 hx hZ hown (host := "") (Or.inl (hw _ (List.mem_of_getElem? (i := 27) rfl))) Via.refl e0 F_c (g := (mkF m 1 #[.val (.ref a1), .unset, .unset] [(.ref a1)])) rfl rfl (hb hby d7_1)
  refine own_go st1 ?_
  show WP p e below _ (T1.setTop (mkF m 4 #[.val (.ref a1), .unset, .unset] [(.int (3 : Int32))]))
  have hc4_2 : ¬ ((3 : Int32) = (0 : Int32)) := by decide
  refine own_go (fun t_ k => XS.ifYes X1.here hx rfl (pc0 := 4) (pc' := 11) rfl (hb hby d7_4) rfl ((if0 _ _).trans (feq hc4_2).2) (by decide) (by decide) k) ?_
  show WP p e below _ (T1.setTop (mkF m 11 #[.val (.ref a1), .unset, .unset] []))
  refine own_go (fun t_ k => XS.iconst X1.here hx rfl (hb hby d7_11) k) ?_
  show WP p e below _ (T1.setTop (mkF m 12 #[.val (.ref a1), .unset, .unset] [(.int (1 : Int32))]))
  refine own_go (fun t_ k => XS.istoreN X1.here hx rfl (hb hby d7_12) rfl (l' := #[.val (.ref a1), .val (.int (1 : Int32)), .unset]) rfl k) ?_
  show WP p e below _ (T1.setTop (mkF m 13 #[.val (.ref a1), .val (.int (1 : Int32)), .unset] []))
  refine own_go (fun t_ k => XS.iconst X1.here hx rfl (hb hby d7_13) k) ?_
  show WP p e below _ (T1.setTop (mkF m 14 #[.val (.ref a1), .val (.int (1 : Int32)), .unset] [(.int (1 : Int32))]))
  refine own_go (fun t_ k => XS.istoreN X1.here hx rfl (hb hby d7_14) rfl (l' := #[.val (.ref a1), .val (.int (1 : Int32)), .val (.int (1 : Int32))]) rfl k) ?_
  show WP p e below _ (T1.setTop (mkF m 15 #[.val (.ref a1), .val (.int (1 : Int32)), .val (.int (1 : Int32))] []))
  refine own_go (fun t_ k => XS.iloadN X1.here hx rfl (hb hby d7_15) rfl k) ?_
  show WP p e below _ (T1.setTop (mkF m 16 #[.val (.ref a1), .val (.int (1 : Int32)), .val (.int (1 : Int32))] [(.int (1 : Int32))]))
  refine own_go (fun t_ k => XS.aloadN X1.here hx rfl (hb hby d7_16) rfl rfl k) ?_
  show WP p e below _ (T1.setTop (mkF m 17 #[.val (.ref a1), .val (.int (1 : Int32)), .val (.int (1 : Int32))] [(.ref a1), (.int (1 : Int32))]))
  obtain ⟨T3, X3, e3, st3⟩ := getF X1 hx hZ hown (host := "") (Or.inl (hw _ (List.mem_of_getElem? (i := 27) rfl))) Via.refl e1 F_c (g := (mkF m 17 #[.val (.ref a1), .val (.int (1 : Int32)), .val (.int (1 : Int32))] [(.ref a1), (.int (1 : Int32))])) rfl rfl (hb hby d7_17)
  refine own_go st3 ?_
  show WP p e below _ (T3.setTop (mkF m 20 #[.val (.ref a1), .val (.int (1 : Int32)), .val (.int (1 : Int32))] [(.int (3 : Int32)), (.int (1 : Int32))]))
  have hc20_4 : ((1 : Int32) < (3 : Int32)) := by decide
  refine own_go (fun t_ k => XS.icmpNo X3.here hx rfl (hb hby d7_20) rfl (tlt hc20_4).2.1 k) ?_
  show WP p e below _ (T3.setTop (mkF m 23 #[.val (.ref a1), .val (.int (1 : Int32)), .val (.int (1 : Int32))] []))
  refine own_go (fun t_ k => XS.iloadN X3.here hx rfl (hb hby d7_23) rfl k) ?_
  show WP p e below _ (T3.setTop (mkF m 24 #[.val (.ref a1), .val (.int (1 : Int32)), .val (.int (1 : Int32))] [(.int (1 : Int32))]))
  refine own_go (fun t_ k => XS.aloadN X3.here hx rfl (hb hby d7_24) rfl rfl k) ?_
  show WP p e below _ (T3.setTop (mkF m 25 #[.val (.ref a1), .val (.int (1 : Int32)), .val (.int (1 : Int32))] [(.ref a1), (.int (1 : Int32))]))
  obtain ⟨T5, X5, e5, st5⟩ := getF X3 hx hZ hown (host := "") (Or.inl (hw _ (List.mem_of_getElem? (i := 25) rfl))) Via.refl e3 F_v (g := (mkF m 25 #[.val (.ref a1), .val (.int (1 : Int32)), .val (.int (1 : Int32))] [(.ref a1), (.int (1 : Int32))])) rfl rfl (hb hby d7_25)
  refine own_go st5 ?_
  show WP p e below _ (T5.setTop (mkF m 28 #[.val (.ref a1), .val (.int (1 : Int32)), .val (.int (1 : Int32))] [(.ref t), (.int (1 : Int32))]))
  refine own_go (fun t_ k => XS.iloadN X5.here hx rfl (hb hby d7_28) rfl k) ?_
  show WP p e below _ (T5.setTop (mkF m 29 #[.val (.ref a1), .val (.int (1 : Int32)), .val (.int (1 : Int32))] [(.int (1 : Int32)), (.ref t), (.int (1 : Int32))]))
  refine own_go (fun t_ k => XS.iconst X5.here hx rfl (hb hby d7_29) k) ?_
  show WP p e below _ (T5.setTop (mkF m 30 #[.val (.ref a1), .val (.int (1 : Int32)), .val (.int (1 : Int32))] [(.int (1 : Int32)), (.int (1 : Int32)), (.ref t), (.int (1 : Int32))]))
  refine own_go (fun t_ k => XS.isub X5.here hx rfl (hb hby d7_30) rfl k) ?_
  show WP p e below _ (T5.setTop (mkF m 31 #[.val (.ref a1), .val (.int (1 : Int32)), .val (.int (1 : Int32))] [(.int (0 : Int32)), (.ref t), (.int (1 : Int32))]))
  obtain ⟨cl6, Ar6, -, S6, M6, H6, -⟩ := id (V_t)
  have hin6 : ¬ ((0 : Int32) < 0 ∨ cl6.slots.size ≤ ((0 : Int32)).toNatClampNeg) := inb_of S6 (⟨by decide, by decide⟩)
  refine own_go (fun t_ k => X5.caload hx (j := (0 : Int32)) (v := (.int c0)) (by rw [e5]; exact Ar6.1) (State.isArrayOf_alike hZ.alike Ar6.2.1) Ar6.2.2 hin6 (H6.at hin6 rfl) (g := (mkF m 31 #[.val (.ref a1), .val (.int (1 : Int32)), .val (.int (1 : Int32))] [(.int (0 : Int32)), (.ref t), (.int (1 : Int32))])) rfl rfl (hb hby d7_31) _ k) ?_
  show WP p e below _ (T5.setTop (mkF m 32 #[.val (.ref a1), .val (.int (1 : Int32)), .val (.int (1 : Int32))] [(.int c0), (.int (1 : Int32))]))
  refine own_go (fun t_ k => XS.iconst X5.here hx rfl (hb hby d7_32) k) ?_
  show WP p e below _ (T5.setTop (mkF m 33 #[.val (.ref a1), .val (.int (1 : Int32)), .val (.int (1 : Int32))] [(.int (1 : Int32)), (.int c0), (.int (1 : Int32))]))
  refine own_go (fun t_ k => XS.iadd X5.here hx rfl (hb hby d7_33) rfl k) ?_
  show WP p e below _ (T5.setTop (mkF m 34 #[.val (.ref a1), .val (.int (1 : Int32)), .val (.int (1 : Int32))] [(.int (c0 + (1 : Int32))), (.int (1 : Int32))]))
  refine own_go (fun t_ k => XS.aloadN X5.here hx rfl (hb hby d7_34) rfl rfl k) ?_
  show WP p e below _ (T5.setTop (mkF m 35 #[.val (.ref a1), .val (.int (1 : Int32)), .val (.int (1 : Int32))] [(.ref a1), (.int (c0 + (1 : Int32))), (.int (1 : Int32))]))
  obtain ⟨T7, X7, e7, st7⟩ := getF X5 hx hZ hown (host := "") (Or.inl (hw _ (List.mem_of_getElem? (i := 25) rfl))) Via.refl e5 F_v (g := (mkF m 35 #[.val (.ref a1), .val (.int (1 : Int32)), .val (.int (1 : Int32))] [(.ref a1), (.int (c0 + (1 : Int32))), (.int (1 : Int32))])) rfl rfl (hb hby d7_35)
  refine own_go st7 ?_
  show WP p e below _ (T7.setTop (mkF m 38 #[.val (.ref a1), .val (.int (1 : Int32)), .val (.int (1 : Int32))] [(.ref t), (.int (c0 + (1 : Int32))), (.int (1 : Int32))]))
  refine own_go (fun t_ k => XS.iloadN X7.here hx rfl (hb hby d7_38) rfl k) ?_
  show WP p e below _ (T7.setTop (mkF m 39 #[.val (.ref a1), .val (.int (1 : Int32)), .val (.int (1 : Int32))] [(.int (1 : Int32)), (.ref t), (.int (c0 + (1 : Int32))), (.int (1 : Int32))]))
  obtain ⟨cl8, Ar8, -, S8, M8, H8, -⟩ := id (V_t)
  have hin8 : ¬ ((1 : Int32) < 0 ∨ cl8.slots.size ≤ ((1 : Int32)).toNatClampNeg) := inb_of S8 (⟨by decide, by decide⟩)
  refine own_go (fun t_ k => X7.caload hx (j := (1 : Int32)) (v := (.int c1)) (by rw [e7]; exact Ar8.1) (State.isArrayOf_alike hZ.alike Ar8.2.1) Ar8.2.2 hin8 (H8.at hin8 rfl) (g := (mkF m 39 #[.val (.ref a1), .val (.int (1 : Int32)), .val (.int (1 : Int32))] [(.int (1 : Int32)), (.ref t), (.int (c0 + (1 : Int32))), (.int (1 : Int32))])) rfl rfl (hb hby d7_39) _ k) ?_
  show WP p e below _ (T7.setTop (mkF m 40 #[.val (.ref a1), .val (.int (1 : Int32)), .val (.int (1 : Int32))] [(.int c1), (.int (c0 + (1 : Int32))), (.int (1 : Int32))]))
  refine own_go (fun t_ k => XS.isub X7.here hx rfl (hb hby d7_40) rfl k) ?_
  show WP p e below _ (T7.setTop (mkF m 41 #[.val (.ref a1), .val (.int (1 : Int32)), .val (.int (1 : Int32))] [(.int ((c0 + (1 : Int32)) - c1)), (.int (1 : Int32))]))
  refine own_go (fun t_ k => XS.bipush X7.here hx rfl (hb hby d7_41) k) ?_
  show WP p e below _ (T7.setTop (mkF m 43 #[.val (.ref a1), .val (.int (1 : Int32)), .val (.int (1 : Int32))] [(.int (31 : Int32)), (.int ((c0 + (1 : Int32)) - c1)), (.int (1 : Int32))]))
  refine own_go (fun t_ k => XS.iushr X7.here hx rfl (hb hby d7_43) rfl k) ?_
  show WP p e below _ (T7.setTop (mkF m 44 #[.val (.ref a1), .val (.int (1 : Int32)), .val (.int (1 : Int32))] [(.int ((((c0 + (1 : Int32)) - c1).toUInt32 >>> ((31 : Int32) &&& 31).toUInt32).toInt32)), (.int (1 : Int32))]))
  refine own_go (fun t_ k => XS.iadd X7.here hx rfl (hb hby d7_44) rfl k) ?_
  show WP p e below _ (T7.setTop (mkF m 45 #[.val (.ref a1), .val (.int (1 : Int32)), .val (.int (1 : Int32))] [(.int ((1 : Int32) + ((((c0 + (1 : Int32)) - c1).toUInt32 >>> ((31 : Int32) &&& 31).toUInt32).toInt32)))]))
  refine own_go (fun t_ k => XS.istoreN X7.here hx rfl (hb hby d7_45) rfl (l' := #[.val (.ref a1), .val (.int ((1 : Int32) + ((((c0 + (1 : Int32)) - c1).toUInt32 >>> ((31 : Int32) &&& 31).toUInt32).toInt32))), .val (.int (1 : Int32))]) rfl k) ?_
  show WP p e below _ (T7.setTop (mkF m 46 #[.val (.ref a1), .val (.int ((1 : Int32) + ((((c0 + (1 : Int32)) - c1).toUInt32 >>> ((31 : Int32) &&& 31).toUInt32).toInt32))), .val (.int (1 : Int32))] []))
  refine own_go (fun t_ k => XS.iinc X7.here hx rfl (hb hby d7_46) rfl (l' := #[.val (.ref a1), .val (.int ((1 : Int32) + ((((c0 + (1 : Int32)) - c1).toUInt32 >>> ((31 : Int32) &&& 31).toUInt32).toInt32))), .val (.int (2 : Int32))]) rfl k) ?_
  show WP p e below _ (T7.setTop (mkF m 49 #[.val (.ref a1), .val (.int ((1 : Int32) + ((((c0 + (1 : Int32)) - c1).toUInt32 >>> ((31 : Int32) &&& 31).toUInt32).toInt32))), .val (.int (2 : Int32))] []))
  refine own_go (fun t_ k => XS.goto X7.here hx rfl (pc0 := 49) (pc' := 15) rfl (hb hby d7_49) (by decide) (by decide) k) ?_
  show WP p e below _ (T7.setTop (mkF m 15 #[.val (.ref a1), .val (.int ((1 : Int32) + ((((c0 + (1 : Int32)) - c1).toUInt32 >>> ((31 : Int32) &&& 31).toUInt32).toInt32))), .val (.int (2 : Int32))] []))
  refine own_go (fun t_ k => XS.iloadN X7.here hx rfl (hb hby d7_15) rfl k) ?_
  show WP p e below _ (T7.setTop (mkF m 16 #[.val (.ref a1), .val (.int ((1 : Int32) + ((((c0 + (1 : Int32)) - c1).toUInt32 >>> ((31 : Int32) &&& 31).toUInt32).toInt32))), .val (.int (2 : Int32))] [(.int (2 : Int32))]))
  refine own_go (fun t_ k => XS.aloadN X7.here hx rfl (hb hby d7_16) rfl rfl k) ?_
  show WP p e below _ (T7.setTop (mkF m 17 #[.val (.ref a1), .val (.int ((1 : Int32) + ((((c0 + (1 : Int32)) - c1).toUInt32 >>> ((31 : Int32) &&& 31).toUInt32).toInt32))), .val (.int (2 : Int32))] [(.ref a1), (.int (2 : Int32))]))
  obtain ⟨T9, X9, e9, st9⟩ := getF X7 hx hZ hown (host := "") (Or.inl (hw _ (List.mem_of_getElem? (i := 27) rfl))) Via.refl e7 F_c (g := (mkF m 17 #[.val (.ref a1), .val (.int ((1 : Int32) + ((((c0 + (1 : Int32)) - c1).toUInt32 >>> ((31 : Int32) &&& 31).toUInt32).toInt32))), .val (.int (2 : Int32))] [(.ref a1), (.int (2 : Int32))])) rfl rfl (hb hby d7_17)
  refine own_go st9 ?_
  show WP p e below _ (T9.setTop (mkF m 20 #[.val (.ref a1), .val (.int ((1 : Int32) + ((((c0 + (1 : Int32)) - c1).toUInt32 >>> ((31 : Int32) &&& 31).toUInt32).toInt32))), .val (.int (2 : Int32))] [(.int (3 : Int32)), (.int (2 : Int32))]))
  have hc20_10 : ((2 : Int32) < (3 : Int32)) := by decide
  refine own_go (fun t_ k => XS.icmpNo X9.here hx rfl (hb hby d7_20) rfl (tlt hc20_10).2.1 k) ?_
  show WP p e below _ (T9.setTop (mkF m 23 #[.val (.ref a1), .val (.int ((1 : Int32) + ((((c0 + (1 : Int32)) - c1).toUInt32 >>> ((31 : Int32) &&& 31).toUInt32).toInt32))), .val (.int (2 : Int32))] []))
  refine own_go (fun t_ k => XS.iloadN X9.here hx rfl (hb hby d7_23) rfl k) ?_
  show WP p e below _ (T9.setTop (mkF m 24 #[.val (.ref a1), .val (.int ((1 : Int32) + ((((c0 + (1 : Int32)) - c1).toUInt32 >>> ((31 : Int32) &&& 31).toUInt32).toInt32))), .val (.int (2 : Int32))] [(.int ((1 : Int32) + ((((c0 + (1 : Int32)) - c1).toUInt32 >>> ((31 : Int32) &&& 31).toUInt32).toInt32)))]))
  refine own_go (fun t_ k => XS.aloadN X9.here hx rfl (hb hby d7_24) rfl rfl k) ?_
  show WP p e below _ (T9.setTop (mkF m 25 #[.val (.ref a1), .val (.int ((1 : Int32) + ((((c0 + (1 : Int32)) - c1).toUInt32 >>> ((31 : Int32) &&& 31).toUInt32).toInt32))), .val (.int (2 : Int32))] [(.ref a1), (.int ((1 : Int32) + ((((c0 + (1 : Int32)) - c1).toUInt32 >>> ((31 : Int32) &&& 31).toUInt32).toInt32)))]))
  obtain ⟨T11, X11, e11, st11⟩ := getF X9 hx hZ hown (host := "") (Or.inl (hw _ (List.mem_of_getElem? (i := 25) rfl))) Via.refl e9 F_v (g := (mkF m 25 #[.val (.ref a1), .val (.int ((1 : Int32) + ((((c0 + (1 : Int32)) - c1).toUInt32 >>> ((31 : Int32) &&& 31).toUInt32).toInt32))), .val (.int (2 : Int32))] [(.ref a1), (.int ((1 : Int32) + ((((c0 + (1 : Int32)) - c1).toUInt32 >>> ((31 : Int32) &&& 31).toUInt32).toInt32)))])) rfl rfl (hb hby d7_25)
  refine own_go st11 ?_
  show WP p e below _ (T11.setTop (mkF m 28 #[.val (.ref a1), .val (.int ((1 : Int32) + ((((c0 + (1 : Int32)) - c1).toUInt32 >>> ((31 : Int32) &&& 31).toUInt32).toInt32))), .val (.int (2 : Int32))] [(.ref t), (.int ((1 : Int32) + ((((c0 + (1 : Int32)) - c1).toUInt32 >>> ((31 : Int32) &&& 31).toUInt32).toInt32)))]))
  refine own_go (fun t_ k => XS.iloadN X11.here hx rfl (hb hby d7_28) rfl k) ?_
  show WP p e below _ (T11.setTop (mkF m 29 #[.val (.ref a1), .val (.int ((1 : Int32) + ((((c0 + (1 : Int32)) - c1).toUInt32 >>> ((31 : Int32) &&& 31).toUInt32).toInt32))), .val (.int (2 : Int32))] [(.int (2 : Int32)), (.ref t), (.int ((1 : Int32) + ((((c0 + (1 : Int32)) - c1).toUInt32 >>> ((31 : Int32) &&& 31).toUInt32).toInt32)))]))
  refine own_go (fun t_ k => XS.iconst X11.here hx rfl (hb hby d7_29) k) ?_
  show WP p e below _ (T11.setTop (mkF m 30 #[.val (.ref a1), .val (.int ((1 : Int32) + ((((c0 + (1 : Int32)) - c1).toUInt32 >>> ((31 : Int32) &&& 31).toUInt32).toInt32))), .val (.int (2 : Int32))] [(.int (1 : Int32)), (.int (2 : Int32)), (.ref t), (.int ((1 : Int32) + ((((c0 + (1 : Int32)) - c1).toUInt32 >>> ((31 : Int32) &&& 31).toUInt32).toInt32)))]))
  refine own_go (fun t_ k => XS.isub X11.here hx rfl (hb hby d7_30) rfl k) ?_
  show WP p e below _ (T11.setTop (mkF m 31 #[.val (.ref a1), .val (.int ((1 : Int32) + ((((c0 + (1 : Int32)) - c1).toUInt32 >>> ((31 : Int32) &&& 31).toUInt32).toInt32))), .val (.int (2 : Int32))] [(.int (1 : Int32)), (.ref t), (.int ((1 : Int32) + ((((c0 + (1 : Int32)) - c1).toUInt32 >>> ((31 : Int32) &&& 31).toUInt32).toInt32)))]))
  obtain ⟨cl12, Ar12, -, S12, M12, H12, -⟩ := id (V_t)
  have hin12 : ¬ ((1 : Int32) < 0 ∨ cl12.slots.size ≤ ((1 : Int32)).toNatClampNeg) := inb_of S12 (⟨by decide, by decide⟩)
  refine own_go (fun t_ k => X11.caload hx (j := (1 : Int32)) (v := (.int c1)) (by rw [e11]; exact Ar12.1) (State.isArrayOf_alike hZ.alike Ar12.2.1) Ar12.2.2 hin12 (H12.at hin12 rfl) (g := (mkF m 31 #[.val (.ref a1), .val (.int ((1 : Int32) + ((((c0 + (1 : Int32)) - c1).toUInt32 >>> ((31 : Int32) &&& 31).toUInt32).toInt32))), .val (.int (2 : Int32))] [(.int (1 : Int32)), (.ref t), (.int ((1 : Int32) + ((((c0 + (1 : Int32)) - c1).toUInt32 >>> ((31 : Int32) &&& 31).toUInt32).toInt32)))])) rfl rfl (hb hby d7_31) _ k) ?_
  show WP p e below _ (T11.setTop (mkF m 32 #[.val (.ref a1), .val (.int ((1 : Int32) + ((((c0 + (1 : Int32)) - c1).toUInt32 >>> ((31 : Int32) &&& 31).toUInt32).toInt32))), .val (.int (2 : Int32))] [(.int c1), (.int ((1 : Int32) + ((((c0 + (1 : Int32)) - c1).toUInt32 >>> ((31 : Int32) &&& 31).toUInt32).toInt32)))]))
  refine own_go (fun t_ k => XS.iconst X11.here hx rfl (hb hby d7_32) k) ?_
  show WP p e below _ (T11.setTop (mkF m 33 #[.val (.ref a1), .val (.int ((1 : Int32) + ((((c0 + (1 : Int32)) - c1).toUInt32 >>> ((31 : Int32) &&& 31).toUInt32).toInt32))), .val (.int (2 : Int32))] [(.int (1 : Int32)), (.int c1), (.int ((1 : Int32) + ((((c0 + (1 : Int32)) - c1).toUInt32 >>> ((31 : Int32) &&& 31).toUInt32).toInt32)))]))
  refine own_go (fun t_ k => XS.iadd X11.here hx rfl (hb hby d7_33) rfl k) ?_
  show WP p e below _ (T11.setTop (mkF m 34 #[.val (.ref a1), .val (.int ((1 : Int32) + ((((c0 + (1 : Int32)) - c1).toUInt32 >>> ((31 : Int32) &&& 31).toUInt32).toInt32))), .val (.int (2 : Int32))] [(.int (c1 + (1 : Int32))), (.int ((1 : Int32) + ((((c0 + (1 : Int32)) - c1).toUInt32 >>> ((31 : Int32) &&& 31).toUInt32).toInt32)))]))
  refine own_go (fun t_ k => XS.aloadN X11.here hx rfl (hb hby d7_34) rfl rfl k) ?_
  show WP p e below _ (T11.setTop (mkF m 35 #[.val (.ref a1), .val (.int ((1 : Int32) + ((((c0 + (1 : Int32)) - c1).toUInt32 >>> ((31 : Int32) &&& 31).toUInt32).toInt32))), .val (.int (2 : Int32))] [(.ref a1), (.int (c1 + (1 : Int32))), (.int ((1 : Int32) + ((((c0 + (1 : Int32)) - c1).toUInt32 >>> ((31 : Int32) &&& 31).toUInt32).toInt32)))]))
  obtain ⟨T13, X13, e13, st13⟩ := getF X11 hx hZ hown (host := "") (Or.inl (hw _ (List.mem_of_getElem? (i := 25) rfl))) Via.refl e11 F_v (g := (mkF m 35 #[.val (.ref a1), .val (.int ((1 : Int32) + ((((c0 + (1 : Int32)) - c1).toUInt32 >>> ((31 : Int32) &&& 31).toUInt32).toInt32))), .val (.int (2 : Int32))] [(.ref a1), (.int (c1 + (1 : Int32))), (.int ((1 : Int32) + ((((c0 + (1 : Int32)) - c1).toUInt32 >>> ((31 : Int32) &&& 31).toUInt32).toInt32)))])) rfl rfl (hb hby d7_35)
  refine own_go st13 ?_
  show WP p e below _ (T13.setTop (mkF m 38 #[.val (.ref a1), .val (.int ((1 : Int32) + ((((c0 + (1 : Int32)) - c1).toUInt32 >>> ((31 : Int32) &&& 31).toUInt32).toInt32))), .val (.int (2 : Int32))] [(.ref t), (.int (c1 + (1 : Int32))), (.int ((1 : Int32) + ((((c0 + (1 : Int32)) - c1).toUInt32 >>> ((31 : Int32) &&& 31).toUInt32).toInt32)))]))
  refine own_go (fun t_ k => XS.iloadN X13.here hx rfl (hb hby d7_38) rfl k) ?_
  show WP p e below _ (T13.setTop (mkF m 39 #[.val (.ref a1), .val (.int ((1 : Int32) + ((((c0 + (1 : Int32)) - c1).toUInt32 >>> ((31 : Int32) &&& 31).toUInt32).toInt32))), .val (.int (2 : Int32))] [(.int (2 : Int32)), (.ref t), (.int (c1 + (1 : Int32))), (.int ((1 : Int32) + ((((c0 + (1 : Int32)) - c1).toUInt32 >>> ((31 : Int32) &&& 31).toUInt32).toInt32)))]))
  obtain ⟨cl14, Ar14, -, S14, M14, H14, -⟩ := id (V_t)
  have hin14 : ¬ ((2 : Int32) < 0 ∨ cl14.slots.size ≤ ((2 : Int32)).toNatClampNeg) := inb_of S14 (⟨by decide, by decide⟩)
  refine own_go (fun t_ k => X13.caload hx (j := (2 : Int32)) (v := (.int c2)) (by rw [e13]; exact Ar14.1) (State.isArrayOf_alike hZ.alike Ar14.2.1) Ar14.2.2 hin14 (H14.at hin14 rfl) (g := (mkF m 39 #[.val (.ref a1), .val (.int ((1 : Int32) + ((((c0 + (1 : Int32)) - c1).toUInt32 >>> ((31 : Int32) &&& 31).toUInt32).toInt32))), .val (.int (2 : Int32))] [(.int (2 : Int32)), (.ref t), (.int (c1 + (1 : Int32))), (.int ((1 : Int32) + ((((c0 + (1 : Int32)) - c1).toUInt32 >>> ((31 : Int32) &&& 31).toUInt32).toInt32)))])) rfl rfl (hb hby d7_39) _ k) ?_
  show WP p e below _ (T13.setTop (mkF m 40 #[.val (.ref a1), .val (.int ((1 : Int32) + ((((c0 + (1 : Int32)) - c1).toUInt32 >>> ((31 : Int32) &&& 31).toUInt32).toInt32))), .val (.int (2 : Int32))] [(.int c2), (.int (c1 + (1 : Int32))), (.int ((1 : Int32) + ((((c0 + (1 : Int32)) - c1).toUInt32 >>> ((31 : Int32) &&& 31).toUInt32).toInt32)))]))
  refine own_go (fun t_ k => XS.isub X13.here hx rfl (hb hby d7_40) rfl k) ?_
  show WP p e below _ (T13.setTop (mkF m 41 #[.val (.ref a1), .val (.int ((1 : Int32) + ((((c0 + (1 : Int32)) - c1).toUInt32 >>> ((31 : Int32) &&& 31).toUInt32).toInt32))), .val (.int (2 : Int32))] [(.int ((c1 + (1 : Int32)) - c2)), (.int ((1 : Int32) + ((((c0 + (1 : Int32)) - c1).toUInt32 >>> ((31 : Int32) &&& 31).toUInt32).toInt32)))]))
  refine own_go (fun t_ k => XS.bipush X13.here hx rfl (hb hby d7_41) k) ?_
  show WP p e below _ (T13.setTop (mkF m 43 #[.val (.ref a1), .val (.int ((1 : Int32) + ((((c0 + (1 : Int32)) - c1).toUInt32 >>> ((31 : Int32) &&& 31).toUInt32).toInt32))), .val (.int (2 : Int32))] [(.int (31 : Int32)), (.int ((c1 + (1 : Int32)) - c2)), (.int ((1 : Int32) + ((((c0 + (1 : Int32)) - c1).toUInt32 >>> ((31 : Int32) &&& 31).toUInt32).toInt32)))]))
  refine own_go (fun t_ k => XS.iushr X13.here hx rfl (hb hby d7_43) rfl k) ?_
  show WP p e below _ (T13.setTop (mkF m 44 #[.val (.ref a1), .val (.int ((1 : Int32) + ((((c0 + (1 : Int32)) - c1).toUInt32 >>> ((31 : Int32) &&& 31).toUInt32).toInt32))), .val (.int (2 : Int32))] [(.int ((((c1 + (1 : Int32)) - c2).toUInt32 >>> ((31 : Int32) &&& 31).toUInt32).toInt32)), (.int ((1 : Int32) + ((((c0 + (1 : Int32)) - c1).toUInt32 >>> ((31 : Int32) &&& 31).toUInt32).toInt32)))]))
  refine own_go (fun t_ k => XS.iadd X13.here hx rfl (hb hby d7_44) rfl k) ?_
  show WP p e below _ (T13.setTop (mkF m 45 #[.val (.ref a1), .val (.int ((1 : Int32) + ((((c0 + (1 : Int32)) - c1).toUInt32 >>> ((31 : Int32) &&& 31).toUInt32).toInt32))), .val (.int (2 : Int32))] [(.int (((1 : Int32) + ((((c0 + (1 : Int32)) - c1).toUInt32 >>> ((31 : Int32) &&& 31).toUInt32).toInt32)) + ((((c1 + (1 : Int32)) - c2).toUInt32 >>> ((31 : Int32) &&& 31).toUInt32).toInt32)))]))
  refine own_go (fun t_ k => XS.istoreN X13.here hx rfl (hb hby d7_45) rfl (l' := #[.val (.ref a1), .val (.int (((1 : Int32) + ((((c0 + (1 : Int32)) - c1).toUInt32 >>> ((31 : Int32) &&& 31).toUInt32).toInt32)) + ((((c1 + (1 : Int32)) - c2).toUInt32 >>> ((31 : Int32) &&& 31).toUInt32).toInt32))), .val (.int (2 : Int32))]) rfl k) ?_
  show WP p e below _ (T13.setTop (mkF m 46 #[.val (.ref a1), .val (.int (((1 : Int32) + ((((c0 + (1 : Int32)) - c1).toUInt32 >>> ((31 : Int32) &&& 31).toUInt32).toInt32)) + ((((c1 + (1 : Int32)) - c2).toUInt32 >>> ((31 : Int32) &&& 31).toUInt32).toInt32))), .val (.int (2 : Int32))] []))
  refine own_go (fun t_ k => XS.iinc X13.here hx rfl (hb hby d7_46) rfl (l' := #[.val (.ref a1), .val (.int (((1 : Int32) + ((((c0 + (1 : Int32)) - c1).toUInt32 >>> ((31 : Int32) &&& 31).toUInt32).toInt32)) + ((((c1 + (1 : Int32)) - c2).toUInt32 >>> ((31 : Int32) &&& 31).toUInt32).toInt32))), .val (.int (3 : Int32))]) rfl k) ?_
  show WP p e below _ (T13.setTop (mkF m 49 #[.val (.ref a1), .val (.int (((1 : Int32) + ((((c0 + (1 : Int32)) - c1).toUInt32 >>> ((31 : Int32) &&& 31).toUInt32).toInt32)) + ((((c1 + (1 : Int32)) - c2).toUInt32 >>> ((31 : Int32) &&& 31).toUInt32).toInt32))), .val (.int (3 : Int32))] []))
  refine own_go (fun t_ k => XS.goto X13.here hx rfl (pc0 := 49) (pc' := 15) rfl (hb hby d7_49) (by decide) (by decide) k) ?_
  show WP p e below _ (T13.setTop (mkF m 15 #[.val (.ref a1), .val (.int (((1 : Int32) + ((((c0 + (1 : Int32)) - c1).toUInt32 >>> ((31 : Int32) &&& 31).toUInt32).toInt32)) + ((((c1 + (1 : Int32)) - c2).toUInt32 >>> ((31 : Int32) &&& 31).toUInt32).toInt32))), .val (.int (3 : Int32))] []))
  refine own_go (fun t_ k => XS.iloadN X13.here hx rfl (hb hby d7_15) rfl k) ?_
  show WP p e below _ (T13.setTop (mkF m 16 #[.val (.ref a1), .val (.int (((1 : Int32) + ((((c0 + (1 : Int32)) - c1).toUInt32 >>> ((31 : Int32) &&& 31).toUInt32).toInt32)) + ((((c1 + (1 : Int32)) - c2).toUInt32 >>> ((31 : Int32) &&& 31).toUInt32).toInt32))), .val (.int (3 : Int32))] [(.int (3 : Int32))]))
  refine own_go (fun t_ k => XS.aloadN X13.here hx rfl (hb hby d7_16) rfl rfl k) ?_
  show WP p e below _ (T13.setTop (mkF m 17 #[.val (.ref a1), .val (.int (((1 : Int32) + ((((c0 + (1 : Int32)) - c1).toUInt32 >>> ((31 : Int32) &&& 31).toUInt32).toInt32)) + ((((c1 + (1 : Int32)) - c2).toUInt32 >>> ((31 : Int32) &&& 31).toUInt32).toInt32))), .val (.int (3 : Int32))] [(.ref a1), (.int (3 : Int32))]))
  obtain ⟨T15, X15, e15, st15⟩ := getF X13 hx hZ hown (host := "") (Or.inl (hw _ (List.mem_of_getElem? (i := 27) rfl))) Via.refl e13 F_c (g := (mkF m 17 #[.val (.ref a1), .val (.int (((1 : Int32) + ((((c0 + (1 : Int32)) - c1).toUInt32 >>> ((31 : Int32) &&& 31).toUInt32).toInt32)) + ((((c1 + (1 : Int32)) - c2).toUInt32 >>> ((31 : Int32) &&& 31).toUInt32).toInt32))), .val (.int (3 : Int32))] [(.ref a1), (.int (3 : Int32))])) rfl rfl (hb hby d7_17)
  refine own_go st15 ?_
  show WP p e below _ (T15.setTop (mkF m 20 #[.val (.ref a1), .val (.int (((1 : Int32) + ((((c0 + (1 : Int32)) - c1).toUInt32 >>> ((31 : Int32) &&& 31).toUInt32).toInt32)) + ((((c1 + (1 : Int32)) - c2).toUInt32 >>> ((31 : Int32) &&& 31).toUInt32).toInt32))), .val (.int (3 : Int32))] [(.int (3 : Int32)), (.int (3 : Int32))]))
  have hc20_16 : ¬ ((3 : Int32) < (3 : Int32)) := by decide
  refine own_go (fun t_ k => XS.icmpYes X15.here hx rfl (pc0 := 20) (pc' := 52) rfl (hb hby d7_20) rfl (flt hc20_16).2.1 (by decide) (by decide) k) ?_
  show WP p e below _ (T15.setTop (mkF m 52 #[.val (.ref a1), .val (.int (((1 : Int32) + ((((c0 + (1 : Int32)) - c1).toUInt32 >>> ((31 : Int32) &&& 31).toUInt32).toInt32)) + ((((c1 + (1 : Int32)) - c2).toUInt32 >>> ((31 : Int32) &&& 31).toUInt32).toInt32))), .val (.int (3 : Int32))] []))
  refine own_go (fun t_ k => XS.iloadN X15.here hx rfl (hb hby d7_52) rfl k) ?_
  show WP p e below _ (T15.setTop (mkF m 53 #[.val (.ref a1), .val (.int (((1 : Int32) + ((((c0 + (1 : Int32)) - c1).toUInt32 >>> ((31 : Int32) &&& 31).toUInt32).toInt32)) + ((((c1 + (1 : Int32)) - c2).toUInt32 >>> ((31 : Int32) &&& 31).toUInt32).toInt32))), .val (.int (3 : Int32))] [(.int (((1 : Int32) + ((((c0 + (1 : Int32)) - c1).toUInt32 >>> ((31 : Int32) &&& 31).toUInt32).toInt32)) + ((((c1 + (1 : Int32)) - c2).toUInt32 >>> ((31 : Int32) &&& 31).toUInt32).toInt32)))]))
  exact own_retI X15 hx Bd.notSynchronized Bd.returns (hb hby d7_53) (show PQ h0 n0 (.int (rc3 c0 c1 c2 c3)) _ _ _ from ⟨rfl, N0, e15⟩) (by decide) (by decide)
def rc4 (c0 c1 c2 c3 : Int32) : Int32 := ((((1 : Int32) + ((((c0 + (1 : Int32)) - c1).toUInt32 >>> ((31 : Int32) &&& 31).toUInt32).toInt32)) + ((((c1 + (1 : Int32)) - c2).toUInt32 >>> ((31 : Int32) &&& 31).toUInt32).toInt32)) + ((((c2 + (1 : Int32)) - c3).toUInt32 >>> ((31 : Int32) &&& 31).toUInt32).toInt32))
theorem ef_rm_rc4 (m : MethodId) (x0 : Addr) : entryFrame m #[(.ref x0)] 3 = mkF m 0 #[.val (.ref x0), .unset, .unset] [] := by first | (simp [entryFrame, mkF, argsToLocals, Value.category]; done) | rfl
set_option maxRecDepth 65536 in
set_option maxHeartbeats 40000000 in
theorem rm_rc4 (l : Launch) (Z : State) (a0 : Array Value) (hw : ∀ d ∈ tables_1, d.before a0 Z = true) (ws : List Jvm.Cond) (a1 : Addr) (t : Addr) (k : ClassId) (u : Addr) (ku : ClassId) (c0 : Int32) (c1 : Int32) (c2 : Int32) (c3 : Int32) (h0 : Heap) (n0 : Nat) (G : AC Z h0 a1 t k u ku (4 : Int32) c0 c1 c2 c3) :
    MetFree l (⟨"com/example/cairn/cairn/ArrayContainer", "runCount", "()I"⟩ : MethodName) (head1 (Jvm.Cond.code (⟨"com/example/cairn/cairn/ArrayContainer", "runCount", "()I"⟩ : MethodName) prog_3_method_21_code 3 (some .int) :: ws) ({ frames := 0, cells := 0, slots := 0, locals := 0 } : Room)) (fun a U => a = #[(.ref a1)] ∧ Z.Warmed39 U.vm ∧ U.heap = h0) (fun _ _ _ _ _ => True) (fun _ U o U' => ∃ v L, o = .returned v ∧ (PQ h0 n0 (.int (rc4 c0 c1 c2 c3))) v U'.heap L ∧ FrameEnd U o U' L ({ frames := 0, cells := 0, slots := 0, locals := 0 } : Room).cells ({ frames := 0, cells := 0, slots := 0, locals := 0 } : Room).slots) := by
  refine MetFree.of_bodySF (plainFor_of_name pn_2) hisR ?_
  intro p e s m args below meth c s₁ Bd hml0 hP hK
  obtain ⟨rfl, hZ, hh⟩ := hP
  have hx := Bd.exec
  have hby := Bd.bytes
  have hml : c.maxLocals = 3 := hml0
  have hown : s.vm.findClass "com/example/cairn/cairn/ArrayContainer" = some m.cls := findClass_of_methodNamed Bd.named
  have hnm := (name_of_methodNamed Bd.named Bd.method).1
  have X0 : Stand p l e ({ frames := 0, cells := 0, slots := 0, locals := 0 } : Room) s m #[(.ref a1)] below meth c s₁ [] 0 0 := Stand.of_body Bd
  have e0 : s₁.heap = h0 := by rw [← hh, Bd.state]; rfl
  have N0 := Fr.nil n0
  show WP p e below (GG (PQ h0 n0 (.int (rc4 c0 c1 c2 c3))) s ({ frames := 0, cells := 0, slots := 0, locals := 0 } : Room).cells ({ frames := 0, cells := 0, slots := 0, locals := 0 } : Room).slots) (s₁.setTop (entryFrame m #[(.ref a1)] 3))
  rw [ef_rm_rc4 m a1]
  obtain ⟨E_a, F_v, F_c, F_o, F_h, V_t, V_u, ne_t, ne_u, ne_ut⟩ := id G
  show WP p e below _ (s₁.setTop (mkF m 0 #[.val (.ref a1), .unset, .unset] []))
  refine own_go (fun t_ k => XS.aloadN X0.here hx rfl (hb hby d7_0) rfl rfl k) ?_
  show WP p e below _ (s₁.setTop (mkF m 1 #[.val (.ref a1), .unset, .unset] [(.ref a1)]))
  obtain ⟨T1, X1, e1, st1⟩ := getF X0 hx hZ hown (host := "") (Or.inl (hw _ (List.mem_of_getElem? (i := 27) rfl))) Via.refl e0 F_c (g := (mkF m 1 #[.val (.ref a1), .unset, .unset] [(.ref a1)])) rfl rfl (hb hby d7_1)
  refine own_go st1 ?_
  show WP p e below _ (T1.setTop (mkF m 4 #[.val (.ref a1), .unset, .unset] [(.int (4 : Int32))]))
  have hc4_2 : ¬ ((4 : Int32) = (0 : Int32)) := by decide
  refine own_go (fun t_ k => XS.ifYes X1.here hx rfl (pc0 := 4) (pc' := 11) rfl (hb hby d7_4) rfl ((if0 _ _).trans (feq hc4_2).2) (by decide) (by decide) k) ?_
  show WP p e below _ (T1.setTop (mkF m 11 #[.val (.ref a1), .unset, .unset] []))
  refine own_go (fun t_ k => XS.iconst X1.here hx rfl (hb hby d7_11) k) ?_
  show WP p e below _ (T1.setTop (mkF m 12 #[.val (.ref a1), .unset, .unset] [(.int (1 : Int32))]))
  refine own_go (fun t_ k => XS.istoreN X1.here hx rfl (hb hby d7_12) rfl (l' := #[.val (.ref a1), .val (.int (1 : Int32)), .unset]) rfl k) ?_
  show WP p e below _ (T1.setTop (mkF m 13 #[.val (.ref a1), .val (.int (1 : Int32)), .unset] []))
  refine own_go (fun t_ k => XS.iconst X1.here hx rfl (hb hby d7_13) k) ?_
  show WP p e below _ (T1.setTop (mkF m 14 #[.val (.ref a1), .val (.int (1 : Int32)), .unset] [(.int (1 : Int32))]))
  refine own_go (fun t_ k => XS.istoreN X1.here hx rfl (hb hby d7_14) rfl (l' := #[.val (.ref a1), .val (.int (1 : Int32)), .val (.int (1 : Int32))]) rfl k) ?_
  show WP p e below _ (T1.setTop (mkF m 15 #[.val (.ref a1), .val (.int (1 : Int32)), .val (.int (1 : Int32))] []))
  refine own_go (fun t_ k => XS.iloadN X1.here hx rfl (hb hby d7_15) rfl k) ?_
  show WP p e below _ (T1.setTop (mkF m 16 #[.val (.ref a1), .val (.int (1 : Int32)), .val (.int (1 : Int32))] [(.int (1 : Int32))]))
  refine own_go (fun t_ k => XS.aloadN X1.here hx rfl (hb hby d7_16) rfl rfl k) ?_
  show WP p e below _ (T1.setTop (mkF m 17 #[.val (.ref a1), .val (.int (1 : Int32)), .val (.int (1 : Int32))] [(.ref a1), (.int (1 : Int32))]))
  obtain ⟨T3, X3, e3, st3⟩ := getF X1 hx hZ hown (host := "") (Or.inl (hw _ (List.mem_of_getElem? (i := 27) rfl))) Via.refl e1 F_c (g := (mkF m 17 #[.val (.ref a1), .val (.int (1 : Int32)), .val (.int (1 : Int32))] [(.ref a1), (.int (1 : Int32))])) rfl rfl (hb hby d7_17)
  refine own_go st3 ?_
  show WP p e below _ (T3.setTop (mkF m 20 #[.val (.ref a1), .val (.int (1 : Int32)), .val (.int (1 : Int32))] [(.int (4 : Int32)), (.int (1 : Int32))]))
  have hc20_4 : ((1 : Int32) < (4 : Int32)) := by decide
  refine own_go (fun t_ k => XS.icmpNo X3.here hx rfl (hb hby d7_20) rfl (tlt hc20_4).2.1 k) ?_
  show WP p e below _ (T3.setTop (mkF m 23 #[.val (.ref a1), .val (.int (1 : Int32)), .val (.int (1 : Int32))] []))
  refine own_go (fun t_ k => XS.iloadN X3.here hx rfl (hb hby d7_23) rfl k) ?_
  show WP p e below _ (T3.setTop (mkF m 24 #[.val (.ref a1), .val (.int (1 : Int32)), .val (.int (1 : Int32))] [(.int (1 : Int32))]))
  refine own_go (fun t_ k => XS.aloadN X3.here hx rfl (hb hby d7_24) rfl rfl k) ?_
  show WP p e below _ (T3.setTop (mkF m 25 #[.val (.ref a1), .val (.int (1 : Int32)), .val (.int (1 : Int32))] [(.ref a1), (.int (1 : Int32))]))
  obtain ⟨T5, X5, e5, st5⟩ := getF X3 hx hZ hown (host := "") (Or.inl (hw _ (List.mem_of_getElem? (i := 25) rfl))) Via.refl e3 F_v (g := (mkF m 25 #[.val (.ref a1), .val (.int (1 : Int32)), .val (.int (1 : Int32))] [(.ref a1), (.int (1 : Int32))])) rfl rfl (hb hby d7_25)
  refine own_go st5 ?_
  show WP p e below _ (T5.setTop (mkF m 28 #[.val (.ref a1), .val (.int (1 : Int32)), .val (.int (1 : Int32))] [(.ref t), (.int (1 : Int32))]))
  refine own_go (fun t_ k => XS.iloadN X5.here hx rfl (hb hby d7_28) rfl k) ?_
  show WP p e below _ (T5.setTop (mkF m 29 #[.val (.ref a1), .val (.int (1 : Int32)), .val (.int (1 : Int32))] [(.int (1 : Int32)), (.ref t), (.int (1 : Int32))]))
  refine own_go (fun t_ k => XS.iconst X5.here hx rfl (hb hby d7_29) k) ?_
  show WP p e below _ (T5.setTop (mkF m 30 #[.val (.ref a1), .val (.int (1 : Int32)), .val (.int (1 : Int32))] [(.int (1 : Int32)), (.int (1 : Int32)), (.ref t), (.int (1 : Int32))]))
  refine own_go (fun t_ k => XS.isub X5.here hx rfl (hb hby d7_30) rfl k) ?_
  show WP p e below _ (T5.setTop (mkF m 31 #[.val (.ref a1), .val (.int (1 : Int32)), .val (.int (1 : Int32))] [(.int (0 : Int32)), (.ref t), (.int (1 : Int32))]))
  obtain ⟨cl6, Ar6, -, S6, M6, H6, -⟩ := id (V_t)
  have hin6 : ¬ ((0 : Int32) < 0 ∨ cl6.slots.size ≤ ((0 : Int32)).toNatClampNeg) := inb_of S6 (⟨by decide, by decide⟩)
  refine own_go (fun t_ k => X5.caload hx (j := (0 : Int32)) (v := (.int c0)) (by rw [e5]; exact Ar6.1) (State.isArrayOf_alike hZ.alike Ar6.2.1) Ar6.2.2 hin6 (H6.at hin6 rfl) (g := (mkF m 31 #[.val (.ref a1), .val (.int (1 : Int32)), .val (.int (1 : Int32))] [(.int (0 : Int32)), (.ref t), (.int (1 : Int32))])) rfl rfl (hb hby d7_31) _ k) ?_
  show WP p e below _ (T5.setTop (mkF m 32 #[.val (.ref a1), .val (.int (1 : Int32)), .val (.int (1 : Int32))] [(.int c0), (.int (1 : Int32))]))
  refine own_go (fun t_ k => XS.iconst X5.here hx rfl (hb hby d7_32) k) ?_
  show WP p e below _ (T5.setTop (mkF m 33 #[.val (.ref a1), .val (.int (1 : Int32)), .val (.int (1 : Int32))] [(.int (1 : Int32)), (.int c0), (.int (1 : Int32))]))
  refine own_go (fun t_ k => XS.iadd X5.here hx rfl (hb hby d7_33) rfl k) ?_
  show WP p e below _ (T5.setTop (mkF m 34 #[.val (.ref a1), .val (.int (1 : Int32)), .val (.int (1 : Int32))] [(.int (c0 + (1 : Int32))), (.int (1 : Int32))]))
  refine own_go (fun t_ k => XS.aloadN X5.here hx rfl (hb hby d7_34) rfl rfl k) ?_
  show WP p e below _ (T5.setTop (mkF m 35 #[.val (.ref a1), .val (.int (1 : Int32)), .val (.int (1 : Int32))] [(.ref a1), (.int (c0 + (1 : Int32))), (.int (1 : Int32))]))
  obtain ⟨T7, X7, e7, st7⟩ := getF X5 hx hZ hown (host := "") (Or.inl (hw _ (List.mem_of_getElem? (i := 25) rfl))) Via.refl e5 F_v (g := (mkF m 35 #[.val (.ref a1), .val (.int (1 : Int32)), .val (.int (1 : Int32))] [(.ref a1), (.int (c0 + (1 : Int32))), (.int (1 : Int32))])) rfl rfl (hb hby d7_35)
  refine own_go st7 ?_
  show WP p e below _ (T7.setTop (mkF m 38 #[.val (.ref a1), .val (.int (1 : Int32)), .val (.int (1 : Int32))] [(.ref t), (.int (c0 + (1 : Int32))), (.int (1 : Int32))]))
  refine own_go (fun t_ k => XS.iloadN X7.here hx rfl (hb hby d7_38) rfl k) ?_
  show WP p e below _ (T7.setTop (mkF m 39 #[.val (.ref a1), .val (.int (1 : Int32)), .val (.int (1 : Int32))] [(.int (1 : Int32)), (.ref t), (.int (c0 + (1 : Int32))), (.int (1 : Int32))]))
  obtain ⟨cl8, Ar8, -, S8, M8, H8, -⟩ := id (V_t)
  have hin8 : ¬ ((1 : Int32) < 0 ∨ cl8.slots.size ≤ ((1 : Int32)).toNatClampNeg) := inb_of S8 (⟨by decide, by decide⟩)
  refine own_go (fun t_ k => X7.caload hx (j := (1 : Int32)) (v := (.int c1)) (by rw [e7]; exact Ar8.1) (State.isArrayOf_alike hZ.alike Ar8.2.1) Ar8.2.2 hin8 (H8.at hin8 rfl) (g := (mkF m 39 #[.val (.ref a1), .val (.int (1 : Int32)), .val (.int (1 : Int32))] [(.int (1 : Int32)), (.ref t), (.int (c0 + (1 : Int32))), (.int (1 : Int32))])) rfl rfl (hb hby d7_39) _ k) ?_
  show WP p e below _ (T7.setTop (mkF m 40 #[.val (.ref a1), .val (.int (1 : Int32)), .val (.int (1 : Int32))] [(.int c1), (.int (c0 + (1 : Int32))), (.int (1 : Int32))]))
  refine own_go (fun t_ k => XS.isub X7.here hx rfl (hb hby d7_40) rfl k) ?_
  show WP p e below _ (T7.setTop (mkF m 41 #[.val (.ref a1), .val (.int (1 : Int32)), .val (.int (1 : Int32))] [(.int ((c0 + (1 : Int32)) - c1)), (.int (1 : Int32))]))
  refine own_go (fun t_ k => XS.bipush X7.here hx rfl (hb hby d7_41) k) ?_
  show WP p e below _ (T7.setTop (mkF m 43 #[.val (.ref a1), .val (.int (1 : Int32)), .val (.int (1 : Int32))] [(.int (31 : Int32)), (.int ((c0 + (1 : Int32)) - c1)), (.int (1 : Int32))]))
  refine own_go (fun t_ k => XS.iushr X7.here hx rfl (hb hby d7_43) rfl k) ?_
  show WP p e below _ (T7.setTop (mkF m 44 #[.val (.ref a1), .val (.int (1 : Int32)), .val (.int (1 : Int32))] [(.int ((((c0 + (1 : Int32)) - c1).toUInt32 >>> ((31 : Int32) &&& 31).toUInt32).toInt32)), (.int (1 : Int32))]))
  refine own_go (fun t_ k => XS.iadd X7.here hx rfl (hb hby d7_44) rfl k) ?_
  show WP p e below _ (T7.setTop (mkF m 45 #[.val (.ref a1), .val (.int (1 : Int32)), .val (.int (1 : Int32))] [(.int ((1 : Int32) + ((((c0 + (1 : Int32)) - c1).toUInt32 >>> ((31 : Int32) &&& 31).toUInt32).toInt32)))]))
  refine own_go (fun t_ k => XS.istoreN X7.here hx rfl (hb hby d7_45) rfl (l' := #[.val (.ref a1), .val (.int ((1 : Int32) + ((((c0 + (1 : Int32)) - c1).toUInt32 >>> ((31 : Int32) &&& 31).toUInt32).toInt32))), .val (.int (1 : Int32))]) rfl k) ?_
  show WP p e below _ (T7.setTop (mkF m 46 #[.val (.ref a1), .val (.int ((1 : Int32) + ((((c0 + (1 : Int32)) - c1).toUInt32 >>> ((31 : Int32) &&& 31).toUInt32).toInt32))), .val (.int (1 : Int32))] []))
  refine own_go (fun t_ k => XS.iinc X7.here hx rfl (hb hby d7_46) rfl (l' := #[.val (.ref a1), .val (.int ((1 : Int32) + ((((c0 + (1 : Int32)) - c1).toUInt32 >>> ((31 : Int32) &&& 31).toUInt32).toInt32))), .val (.int (2 : Int32))]) rfl k) ?_
  show WP p e below _ (T7.setTop (mkF m 49 #[.val (.ref a1), .val (.int ((1 : Int32) + ((((c0 + (1 : Int32)) - c1).toUInt32 >>> ((31 : Int32) &&& 31).toUInt32).toInt32))), .val (.int (2 : Int32))] []))
  refine own_go (fun t_ k => XS.goto X7.here hx rfl (pc0 := 49) (pc' := 15) rfl (hb hby d7_49) (by decide) (by decide) k) ?_
  show WP p e below _ (T7.setTop (mkF m 15 #[.val (.ref a1), .val (.int ((1 : Int32) + ((((c0 + (1 : Int32)) - c1).toUInt32 >>> ((31 : Int32) &&& 31).toUInt32).toInt32))), .val (.int (2 : Int32))] []))
  refine own_go (fun t_ k => XS.iloadN X7.here hx rfl (hb hby d7_15) rfl k) ?_
  show WP p e below _ (T7.setTop (mkF m 16 #[.val (.ref a1), .val (.int ((1 : Int32) + ((((c0 + (1 : Int32)) - c1).toUInt32 >>> ((31 : Int32) &&& 31).toUInt32).toInt32))), .val (.int (2 : Int32))] [(.int (2 : Int32))]))
  refine own_go (fun t_ k => XS.aloadN X7.here hx rfl (hb hby d7_16) rfl rfl k) ?_
  show WP p e below _ (T7.setTop (mkF m 17 #[.val (.ref a1), .val (.int ((1 : Int32) + ((((c0 + (1 : Int32)) - c1).toUInt32 >>> ((31 : Int32) &&& 31).toUInt32).toInt32))), .val (.int (2 : Int32))] [(.ref a1), (.int (2 : Int32))]))
  obtain ⟨T9, X9, e9, st9⟩ := getF X7 hx hZ hown (host := "") (Or.inl (hw _ (List.mem_of_getElem? (i := 27) rfl))) Via.refl e7 F_c (g := (mkF m 17 #[.val (.ref a1), .val (.int ((1 : Int32) + ((((c0 + (1 : Int32)) - c1).toUInt32 >>> ((31 : Int32) &&& 31).toUInt32).toInt32))), .val (.int (2 : Int32))] [(.ref a1), (.int (2 : Int32))])) rfl rfl (hb hby d7_17)
  refine own_go st9 ?_
  show WP p e below _ (T9.setTop (mkF m 20 #[.val (.ref a1), .val (.int ((1 : Int32) + ((((c0 + (1 : Int32)) - c1).toUInt32 >>> ((31 : Int32) &&& 31).toUInt32).toInt32))), .val (.int (2 : Int32))] [(.int (4 : Int32)), (.int (2 : Int32))]))
  have hc20_10 : ((2 : Int32) < (4 : Int32)) := by decide
  refine own_go (fun t_ k => XS.icmpNo X9.here hx rfl (hb hby d7_20) rfl (tlt hc20_10).2.1 k) ?_
  show WP p e below _ (T9.setTop (mkF m 23 #[.val (.ref a1), .val (.int ((1 : Int32) + ((((c0 + (1 : Int32)) - c1).toUInt32 >>> ((31 : Int32) &&& 31).toUInt32).toInt32))), .val (.int (2 : Int32))] []))
  refine own_go (fun t_ k => XS.iloadN X9.here hx rfl (hb hby d7_23) rfl k) ?_
  show WP p e below _ (T9.setTop (mkF m 24 #[.val (.ref a1), .val (.int ((1 : Int32) + ((((c0 + (1 : Int32)) - c1).toUInt32 >>> ((31 : Int32) &&& 31).toUInt32).toInt32))), .val (.int (2 : Int32))] [(.int ((1 : Int32) + ((((c0 + (1 : Int32)) - c1).toUInt32 >>> ((31 : Int32) &&& 31).toUInt32).toInt32)))]))
  refine own_go (fun t_ k => XS.aloadN X9.here hx rfl (hb hby d7_24) rfl rfl k) ?_
  show WP p e below _ (T9.setTop (mkF m 25 #[.val (.ref a1), .val (.int ((1 : Int32) + ((((c0 + (1 : Int32)) - c1).toUInt32 >>> ((31 : Int32) &&& 31).toUInt32).toInt32))), .val (.int (2 : Int32))] [(.ref a1), (.int ((1 : Int32) + ((((c0 + (1 : Int32)) - c1).toUInt32 >>> ((31 : Int32) &&& 31).toUInt32).toInt32)))]))
  obtain ⟨T11, X11, e11, st11⟩ := getF X9 hx hZ hown (host := "") (Or.inl (hw _ (List.mem_of_getElem? (i := 25) rfl))) Via.refl e9 F_v (g := (mkF m 25 #[.val (.ref a1), .val (.int ((1 : Int32) + ((((c0 + (1 : Int32)) - c1).toUInt32 >>> ((31 : Int32) &&& 31).toUInt32).toInt32))), .val (.int (2 : Int32))] [(.ref a1), (.int ((1 : Int32) + ((((c0 + (1 : Int32)) - c1).toUInt32 >>> ((31 : Int32) &&& 31).toUInt32).toInt32)))])) rfl rfl (hb hby d7_25)
  refine own_go st11 ?_
  show WP p e below _ (T11.setTop (mkF m 28 #[.val (.ref a1), .val (.int ((1 : Int32) + ((((c0 + (1 : Int32)) - c1).toUInt32 >>> ((31 : Int32) &&& 31).toUInt32).toInt32))), .val (.int (2 : Int32))] [(.ref t), (.int ((1 : Int32) + ((((c0 + (1 : Int32)) - c1).toUInt32 >>> ((31 : Int32) &&& 31).toUInt32).toInt32)))]))
  refine own_go (fun t_ k => XS.iloadN X11.here hx rfl (hb hby d7_28) rfl k) ?_
  show WP p e below _ (T11.setTop (mkF m 29 #[.val (.ref a1), .val (.int ((1 : Int32) + ((((c0 + (1 : Int32)) - c1).toUInt32 >>> ((31 : Int32) &&& 31).toUInt32).toInt32))), .val (.int (2 : Int32))] [(.int (2 : Int32)), (.ref t), (.int ((1 : Int32) + ((((c0 + (1 : Int32)) - c1).toUInt32 >>> ((31 : Int32) &&& 31).toUInt32).toInt32)))]))
  refine own_go (fun t_ k => XS.iconst X11.here hx rfl (hb hby d7_29) k) ?_
  show WP p e below _ (T11.setTop (mkF m 30 #[.val (.ref a1), .val (.int ((1 : Int32) + ((((c0 + (1 : Int32)) - c1).toUInt32 >>> ((31 : Int32) &&& 31).toUInt32).toInt32))), .val (.int (2 : Int32))] [(.int (1 : Int32)), (.int (2 : Int32)), (.ref t), (.int ((1 : Int32) + ((((c0 + (1 : Int32)) - c1).toUInt32 >>> ((31 : Int32) &&& 31).toUInt32).toInt32)))]))
  refine own_go (fun t_ k => XS.isub X11.here hx rfl (hb hby d7_30) rfl k) ?_
  show WP p e below _ (T11.setTop (mkF m 31 #[.val (.ref a1), .val (.int ((1 : Int32) + ((((c0 + (1 : Int32)) - c1).toUInt32 >>> ((31 : Int32) &&& 31).toUInt32).toInt32))), .val (.int (2 : Int32))] [(.int (1 : Int32)), (.ref t), (.int ((1 : Int32) + ((((c0 + (1 : Int32)) - c1).toUInt32 >>> ((31 : Int32) &&& 31).toUInt32).toInt32)))]))
  obtain ⟨cl12, Ar12, -, S12, M12, H12, -⟩ := id (V_t)
  have hin12 : ¬ ((1 : Int32) < 0 ∨ cl12.slots.size ≤ ((1 : Int32)).toNatClampNeg) := inb_of S12 (⟨by decide, by decide⟩)
  refine own_go (fun t_ k => X11.caload hx (j := (1 : Int32)) (v := (.int c1)) (by rw [e11]; exact Ar12.1) (State.isArrayOf_alike hZ.alike Ar12.2.1) Ar12.2.2 hin12 (H12.at hin12 rfl) (g := (mkF m 31 #[.val (.ref a1), .val (.int ((1 : Int32) + ((((c0 + (1 : Int32)) - c1).toUInt32 >>> ((31 : Int32) &&& 31).toUInt32).toInt32))), .val (.int (2 : Int32))] [(.int (1 : Int32)), (.ref t), (.int ((1 : Int32) + ((((c0 + (1 : Int32)) - c1).toUInt32 >>> ((31 : Int32) &&& 31).toUInt32).toInt32)))])) rfl rfl (hb hby d7_31) _ k) ?_
  show WP p e below _ (T11.setTop (mkF m 32 #[.val (.ref a1), .val (.int ((1 : Int32) + ((((c0 + (1 : Int32)) - c1).toUInt32 >>> ((31 : Int32) &&& 31).toUInt32).toInt32))), .val (.int (2 : Int32))] [(.int c1), (.int ((1 : Int32) + ((((c0 + (1 : Int32)) - c1).toUInt32 >>> ((31 : Int32) &&& 31).toUInt32).toInt32)))]))
  refine own_go (fun t_ k => XS.iconst X11.here hx rfl (hb hby d7_32) k) ?_
  show WP p e below _ (T11.setTop (mkF m 33 #[.val (.ref a1), .val (.int ((1 : Int32) + ((((c0 + (1 : Int32)) - c1).toUInt32 >>> ((31 : Int32) &&& 31).toUInt32).toInt32))), .val (.int (2 : Int32))] [(.int (1 : Int32)), (.int c1), (.int ((1 : Int32) + ((((c0 + (1 : Int32)) - c1).toUInt32 >>> ((31 : Int32) &&& 31).toUInt32).toInt32)))]))
  refine own_go (fun t_ k => XS.iadd X11.here hx rfl (hb hby d7_33) rfl k) ?_
  show WP p e below _ (T11.setTop (mkF m 34 #[.val (.ref a1), .val (.int ((1 : Int32) + ((((c0 + (1 : Int32)) - c1).toUInt32 >>> ((31 : Int32) &&& 31).toUInt32).toInt32))), .val (.int (2 : Int32))] [(.int (c1 + (1 : Int32))), (.int ((1 : Int32) + ((((c0 + (1 : Int32)) - c1).toUInt32 >>> ((31 : Int32) &&& 31).toUInt32).toInt32)))]))
  refine own_go (fun t_ k => XS.aloadN X11.here hx rfl (hb hby d7_34) rfl rfl k) ?_
  show WP p e below _ (T11.setTop (mkF m 35 #[.val (.ref a1), .val (.int ((1 : Int32) + ((((c0 + (1 : Int32)) - c1).toUInt32 >>> ((31 : Int32) &&& 31).toUInt32).toInt32))), .val (.int (2 : Int32))] [(.ref a1), (.int (c1 + (1 : Int32))), (.int ((1 : Int32) + ((((c0 + (1 : Int32)) - c1).toUInt32 >>> ((31 : Int32) &&& 31).toUInt32).toInt32)))]))
  obtain ⟨T13, X13, e13, st13⟩ := getF X11 hx hZ hown (host := "") (Or.inl (hw _ (List.mem_of_getElem? (i := 25) rfl))) Via.refl e11 F_v (g := (mkF m 35 #[.val (.ref a1), .val (.int ((1 : Int32) + ((((c0 + (1 : Int32)) - c1).toUInt32 >>> ((31 : Int32) &&& 31).toUInt32).toInt32))), .val (.int (2 : Int32))] [(.ref a1), (.int (c1 + (1 : Int32))), (.int ((1 : Int32) + ((((c0 + (1 : Int32)) - c1).toUInt32 >>> ((31 : Int32) &&& 31).toUInt32).toInt32)))])) rfl rfl (hb hby d7_35)
  refine own_go st13 ?_
  show WP p e below _ (T13.setTop (mkF m 38 #[.val (.ref a1), .val (.int ((1 : Int32) + ((((c0 + (1 : Int32)) - c1).toUInt32 >>> ((31 : Int32) &&& 31).toUInt32).toInt32))), .val (.int (2 : Int32))] [(.ref t), (.int (c1 + (1 : Int32))), (.int ((1 : Int32) + ((((c0 + (1 : Int32)) - c1).toUInt32 >>> ((31 : Int32) &&& 31).toUInt32).toInt32)))]))
  refine own_go (fun t_ k => XS.iloadN X13.here hx rfl (hb hby d7_38) rfl k) ?_
  show WP p e below _ (T13.setTop (mkF m 39 #[.val (.ref a1), .val (.int ((1 : Int32) + ((((c0 + (1 : Int32)) - c1).toUInt32 >>> ((31 : Int32) &&& 31).toUInt32).toInt32))), .val (.int (2 : Int32))] [(.int (2 : Int32)), (.ref t), (.int (c1 + (1 : Int32))), (.int ((1 : Int32) + ((((c0 + (1 : Int32)) - c1).toUInt32 >>> ((31 : Int32) &&& 31).toUInt32).toInt32)))]))
  obtain ⟨cl14, Ar14, -, S14, M14, H14, -⟩ := id (V_t)
  have hin14 : ¬ ((2 : Int32) < 0 ∨ cl14.slots.size ≤ ((2 : Int32)).toNatClampNeg) := inb_of S14 (⟨by decide, by decide⟩)
  refine own_go (fun t_ k => X13.caload hx (j := (2 : Int32)) (v := (.int c2)) (by rw [e13]; exact Ar14.1) (State.isArrayOf_alike hZ.alike Ar14.2.1) Ar14.2.2 hin14 (H14.at hin14 rfl) (g := (mkF m 39 #[.val (.ref a1), .val (.int ((1 : Int32) + ((((c0 + (1 : Int32)) - c1).toUInt32 >>> ((31 : Int32) &&& 31).toUInt32).toInt32))), .val (.int (2 : Int32))] [(.int (2 : Int32)), (.ref t), (.int (c1 + (1 : Int32))), (.int ((1 : Int32) + ((((c0 + (1 : Int32)) - c1).toUInt32 >>> ((31 : Int32) &&& 31).toUInt32).toInt32)))])) rfl rfl (hb hby d7_39) _ k) ?_
  show WP p e below _ (T13.setTop (mkF m 40 #[.val (.ref a1), .val (.int ((1 : Int32) + ((((c0 + (1 : Int32)) - c1).toUInt32 >>> ((31 : Int32) &&& 31).toUInt32).toInt32))), .val (.int (2 : Int32))] [(.int c2), (.int (c1 + (1 : Int32))), (.int ((1 : Int32) + ((((c0 + (1 : Int32)) - c1).toUInt32 >>> ((31 : Int32) &&& 31).toUInt32).toInt32)))]))
  refine own_go (fun t_ k => XS.isub X13.here hx rfl (hb hby d7_40) rfl k) ?_
  show WP p e below _ (T13.setTop (mkF m 41 #[.val (.ref a1), .val (.int ((1 : Int32) + ((((c0 + (1 : Int32)) - c1).toUInt32 >>> ((31 : Int32) &&& 31).toUInt32).toInt32))), .val (.int (2 : Int32))] [(.int ((c1 + (1 : Int32)) - c2)), (.int ((1 : Int32) + ((((c0 + (1 : Int32)) - c1).toUInt32 >>> ((31 : Int32) &&& 31).toUInt32).toInt32)))]))
  refine own_go (fun t_ k => XS.bipush X13.here hx rfl (hb hby d7_41) k) ?_
  show WP p e below _ (T13.setTop (mkF m 43 #[.val (.ref a1), .val (.int ((1 : Int32) + ((((c0 + (1 : Int32)) - c1).toUInt32 >>> ((31 : Int32) &&& 31).toUInt32).toInt32))), .val (.int (2 : Int32))] [(.int (31 : Int32)), (.int ((c1 + (1 : Int32)) - c2)), (.int ((1 : Int32) + ((((c0 + (1 : Int32)) - c1).toUInt32 >>> ((31 : Int32) &&& 31).toUInt32).toInt32)))]))
  refine own_go (fun t_ k => XS.iushr X13.here hx rfl (hb hby d7_43) rfl k) ?_
  show WP p e below _ (T13.setTop (mkF m 44 #[.val (.ref a1), .val (.int ((1 : Int32) + ((((c0 + (1 : Int32)) - c1).toUInt32 >>> ((31 : Int32) &&& 31).toUInt32).toInt32))), .val (.int (2 : Int32))] [(.int ((((c1 + (1 : Int32)) - c2).toUInt32 >>> ((31 : Int32) &&& 31).toUInt32).toInt32)), (.int ((1 : Int32) + ((((c0 + (1 : Int32)) - c1).toUInt32 >>> ((31 : Int32) &&& 31).toUInt32).toInt32)))]))
  refine own_go (fun t_ k => XS.iadd X13.here hx rfl (hb hby d7_44) rfl k) ?_
  show WP p e below _ (T13.setTop (mkF m 45 #[.val (.ref a1), .val (.int ((1 : Int32) + ((((c0 + (1 : Int32)) - c1).toUInt32 >>> ((31 : Int32) &&& 31).toUInt32).toInt32))), .val (.int (2 : Int32))] [(.int (((1 : Int32) + ((((c0 + (1 : Int32)) - c1).toUInt32 >>> ((31 : Int32) &&& 31).toUInt32).toInt32)) + ((((c1 + (1 : Int32)) - c2).toUInt32 >>> ((31 : Int32) &&& 31).toUInt32).toInt32)))]))
  refine own_go (fun t_ k => XS.istoreN X13.here hx rfl (hb hby d7_45) rfl (l' := #[.val (.ref a1), .val (.int (((1 : Int32) + ((((c0 + (1 : Int32)) - c1).toUInt32 >>> ((31 : Int32) &&& 31).toUInt32).toInt32)) + ((((c1 + (1 : Int32)) - c2).toUInt32 >>> ((31 : Int32) &&& 31).toUInt32).toInt32))), .val (.int (2 : Int32))]) rfl k) ?_
  show WP p e below _ (T13.setTop (mkF m 46 #[.val (.ref a1), .val (.int (((1 : Int32) + ((((c0 + (1 : Int32)) - c1).toUInt32 >>> ((31 : Int32) &&& 31).toUInt32).toInt32)) + ((((c1 + (1 : Int32)) - c2).toUInt32 >>> ((31 : Int32) &&& 31).toUInt32).toInt32))), .val (.int (2 : Int32))] []))
  refine own_go (fun t_ k => XS.iinc X13.here hx rfl (hb hby d7_46) rfl (l' := #[.val (.ref a1), .val (.int (((1 : Int32) + ((((c0 + (1 : Int32)) - c1).toUInt32 >>> ((31 : Int32) &&& 31).toUInt32).toInt32)) + ((((c1 + (1 : Int32)) - c2).toUInt32 >>> ((31 : Int32) &&& 31).toUInt32).toInt32))), .val (.int (3 : Int32))]) rfl k) ?_
  show WP p e below _ (T13.setTop (mkF m 49 #[.val (.ref a1), .val (.int (((1 : Int32) + ((((c0 + (1 : Int32)) - c1).toUInt32 >>> ((31 : Int32) &&& 31).toUInt32).toInt32)) + ((((c1 + (1 : Int32)) - c2).toUInt32 >>> ((31 : Int32) &&& 31).toUInt32).toInt32))), .val (.int (3 : Int32))] []))
  refine own_go (fun t_ k => XS.goto X13.here hx rfl (pc0 := 49) (pc' := 15) rfl (hb hby d7_49) (by decide) (by decide) k) ?_
  show WP p e below _ (T13.setTop (mkF m 15 #[.val (.ref a1), .val (.int (((1 : Int32) + ((((c0 + (1 : Int32)) - c1).toUInt32 >>> ((31 : Int32) &&& 31).toUInt32).toInt32)) + ((((c1 + (1 : Int32)) - c2).toUInt32 >>> ((31 : Int32) &&& 31).toUInt32).toInt32))), .val (.int (3 : Int32))] []))
  refine own_go (fun t_ k => XS.iloadN X13.here hx rfl (hb hby d7_15) rfl k) ?_
  show WP p e below _ (T13.setTop (mkF m 16 #[.val (.ref a1), .val (.int (((1 : Int32) + ((((c0 + (1 : Int32)) - c1).toUInt32 >>> ((31 : Int32) &&& 31).toUInt32).toInt32)) + ((((c1 + (1 : Int32)) - c2).toUInt32 >>> ((31 : Int32) &&& 31).toUInt32).toInt32))), .val (.int (3 : Int32))] [(.int (3 : Int32))]))
  refine own_go (fun t_ k => XS.aloadN X13.here hx rfl (hb hby d7_16) rfl rfl k) ?_
  show WP p e below _ (T13.setTop (mkF m 17 #[.val (.ref a1), .val (.int (((1 : Int32) + ((((c0 + (1 : Int32)) - c1).toUInt32 >>> ((31 : Int32) &&& 31).toUInt32).toInt32)) + ((((c1 + (1 : Int32)) - c2).toUInt32 >>> ((31 : Int32) &&& 31).toUInt32).toInt32))), .val (.int (3 : Int32))] [(.ref a1), (.int (3 : Int32))]))
  obtain ⟨T15, X15, e15, st15⟩ := getF X13 hx hZ hown (host := "") (Or.inl (hw _ (List.mem_of_getElem? (i := 27) rfl))) Via.refl e13 F_c (g := (mkF m 17 #[.val (.ref a1), .val (.int (((1 : Int32) + ((((c0 + (1 : Int32)) - c1).toUInt32 >>> ((31 : Int32) &&& 31).toUInt32).toInt32)) + ((((c1 + (1 : Int32)) - c2).toUInt32 >>> ((31 : Int32) &&& 31).toUInt32).toInt32))), .val (.int (3 : Int32))] [(.ref a1), (.int (3 : Int32))])) rfl rfl (hb hby d7_17)
  refine own_go st15 ?_
  show WP p e below _ (T15.setTop (mkF m 20 #[.val (.ref a1), .val (.int (((1 : Int32) + ((((c0 + (1 : Int32)) - c1).toUInt32 >>> ((31 : Int32) &&& 31).toUInt32).toInt32)) + ((((c1 + (1 : Int32)) - c2).toUInt32 >>> ((31 : Int32) &&& 31).toUInt32).toInt32))), .val (.int (3 : Int32))] [(.int (4 : Int32)), (.int (3 : Int32))]))
  have hc20_16 : ((3 : Int32) < (4 : Int32)) := by decide
  refine own_go (fun t_ k => XS.icmpNo X15.here hx rfl (hb hby d7_20) rfl (tlt hc20_16).2.1 k) ?_
  show WP p e below _ (T15.setTop (mkF m 23 #[.val (.ref a1), .val (.int (((1 : Int32) + ((((c0 + (1 : Int32)) - c1).toUInt32 >>> ((31 : Int32) &&& 31).toUInt32).toInt32)) + ((((c1 + (1 : Int32)) - c2).toUInt32 >>> ((31 : Int32) &&& 31).toUInt32).toInt32))), .val (.int (3 : Int32))] []))
  refine own_go (fun t_ k => XS.iloadN X15.here hx rfl (hb hby d7_23) rfl k) ?_
  show WP p e below _ (T15.setTop (mkF m 24 #[.val (.ref a1), .val (.int (((1 : Int32) + ((((c0 + (1 : Int32)) - c1).toUInt32 >>> ((31 : Int32) &&& 31).toUInt32).toInt32)) + ((((c1 + (1 : Int32)) - c2).toUInt32 >>> ((31 : Int32) &&& 31).toUInt32).toInt32))), .val (.int (3 : Int32))] [(.int (((1 : Int32) + ((((c0 + (1 : Int32)) - c1).toUInt32 >>> ((31 : Int32) &&& 31).toUInt32).toInt32)) + ((((c1 + (1 : Int32)) - c2).toUInt32 >>> ((31 : Int32) &&& 31).toUInt32).toInt32)))]))
  refine own_go (fun t_ k => XS.aloadN X15.here hx rfl (hb hby d7_24) rfl rfl k) ?_
  show WP p e below _ (T15.setTop (mkF m 25 #[.val (.ref a1), .val (.int (((1 : Int32) + ((((c0 + (1 : Int32)) - c1).toUInt32 >>> ((31 : Int32) &&& 31).toUInt32).toInt32)) + ((((c1 + (1 : Int32)) - c2).toUInt32 >>> ((31 : Int32) &&& 31).toUInt32).toInt32))), .val (.int (3 : Int32))] [(.ref a1), (.int (((1 : Int32) + ((((c0 + (1 : Int32)) - c1).toUInt32 >>> ((31 : Int32) &&& 31).toUInt32).toInt32)) + ((((c1 + (1 : Int32)) - c2).toUInt32 >>> ((31 : Int32) &&& 31).toUInt32).toInt32)))]))
  obtain ⟨T17, X17, e17, st17⟩ := getF X15 hx hZ hown (host := "") (Or.inl (hw _ (List.mem_of_getElem? (i := 25) rfl))) Via.refl e15 F_v (g := (mkF m 25 #[.val (.ref a1), .val (.int (((1 : Int32) + ((((c0 + (1 : Int32)) - c1).toUInt32 >>> ((31 : Int32) &&& 31).toUInt32).toInt32)) + ((((c1 + (1 : Int32)) - c2).toUInt32 >>> ((31 : Int32) &&& 31).toUInt32).toInt32))), .val (.int (3 : Int32))] [(.ref a1), (.int (((1 : Int32) + ((((c0 + (1 : Int32)) - c1).toUInt32 >>> ((31 : Int32) &&& 31).toUInt32).toInt32)) + ((((c1 + (1 : Int32)) - c2).toUInt32 >>> ((31 : Int32) &&& 31).toUInt32).toInt32)))])) rfl rfl (hb hby d7_25)
  refine own_go st17 ?_
  show WP p e below _ (T17.setTop (mkF m 28 #[.val (.ref a1), .val (.int (((1 : Int32) + ((((c0 + (1 : Int32)) - c1).toUInt32 >>> ((31 : Int32) &&& 31).toUInt32).toInt32)) + ((((c1 + (1 : Int32)) - c2).toUInt32 >>> ((31 : Int32) &&& 31).toUInt32).toInt32))), .val (.int (3 : Int32))] [(.ref t), (.int (((1 : Int32) + ((((c0 + (1 : Int32)) - c1).toUInt32 >>> ((31 : Int32) &&& 31).toUInt32).toInt32)) + ((((c1 + (1 : Int32)) - c2).toUInt32 >>> ((31 : Int32) &&& 31).toUInt32).toInt32)))]))
  refine own_go (fun t_ k => XS.iloadN X17.here hx rfl (hb hby d7_28) rfl k) ?_
  show WP p e below _ (T17.setTop (mkF m 29 #[.val (.ref a1), .val (.int (((1 : Int32) + ((((c0 + (1 : Int32)) - c1).toUInt32 >>> ((31 : Int32) &&& 31).toUInt32).toInt32)) + ((((c1 + (1 : Int32)) - c2).toUInt32 >>> ((31 : Int32) &&& 31).toUInt32).toInt32))), .val (.int (3 : Int32))] [(.int (3 : Int32)), (.ref t), (.int (((1 : Int32) + ((((c0 + (1 : Int32)) - c1).toUInt32 >>> ((31 : Int32) &&& 31).toUInt32).toInt32)) + ((((c1 + (1 : Int32)) - c2).toUInt32 >>> ((31 : Int32) &&& 31).toUInt32).toInt32)))]))
  refine own_go (fun t_ k => XS.iconst X17.here hx rfl (hb hby d7_29) k) ?_
  show WP p e below _ (T17.setTop (mkF m 30 #[.val (.ref a1), .val (.int (((1 : Int32) + ((((c0 + (1 : Int32)) - c1).toUInt32 >>> ((31 : Int32) &&& 31).toUInt32).toInt32)) + ((((c1 + (1 : Int32)) - c2).toUInt32 >>> ((31 : Int32) &&& 31).toUInt32).toInt32))), .val (.int (3 : Int32))] [(.int (1 : Int32)), (.int (3 : Int32)), (.ref t), (.int (((1 : Int32) + ((((c0 + (1 : Int32)) - c1).toUInt32 >>> ((31 : Int32) &&& 31).toUInt32).toInt32)) + ((((c1 + (1 : Int32)) - c2).toUInt32 >>> ((31 : Int32) &&& 31).toUInt32).toInt32)))]))
  refine own_go (fun t_ k => XS.isub X17.here hx rfl (hb hby d7_30) rfl k) ?_
  show WP p e below _ (T17.setTop (mkF m 31 #[.val (.ref a1), .val (.int (((1 : Int32) + ((((c0 + (1 : Int32)) - c1).toUInt32 >>> ((31 : Int32) &&& 31).toUInt32).toInt32)) + ((((c1 + (1 : Int32)) - c2).toUInt32 >>> ((31 : Int32) &&& 31).toUInt32).toInt32))), .val (.int (3 : Int32))] [(.int (2 : Int32)), (.ref t), (.int (((1 : Int32) + ((((c0 + (1 : Int32)) - c1).toUInt32 >>> ((31 : Int32) &&& 31).toUInt32).toInt32)) + ((((c1 + (1 : Int32)) - c2).toUInt32 >>> ((31 : Int32) &&& 31).toUInt32).toInt32)))]))
  obtain ⟨cl18, Ar18, -, S18, M18, H18, -⟩ := id (V_t)
  have hin18 : ¬ ((2 : Int32) < 0 ∨ cl18.slots.size ≤ ((2 : Int32)).toNatClampNeg) := inb_of S18 (⟨by decide, by decide⟩)
  refine own_go (fun t_ k => X17.caload hx (j := (2 : Int32)) (v := (.int c2)) (by rw [e17]; exact Ar18.1) (State.isArrayOf_alike hZ.alike Ar18.2.1) Ar18.2.2 hin18 (H18.at hin18 rfl) (g := (mkF m 31 #[.val (.ref a1), .val (.int (((1 : Int32) + ((((c0 + (1 : Int32)) - c1).toUInt32 >>> ((31 : Int32) &&& 31).toUInt32).toInt32)) + ((((c1 + (1 : Int32)) - c2).toUInt32 >>> ((31 : Int32) &&& 31).toUInt32).toInt32))), .val (.int (3 : Int32))] [(.int (2 : Int32)), (.ref t), (.int (((1 : Int32) + ((((c0 + (1 : Int32)) - c1).toUInt32 >>> ((31 : Int32) &&& 31).toUInt32).toInt32)) + ((((c1 + (1 : Int32)) - c2).toUInt32 >>> ((31 : Int32) &&& 31).toUInt32).toInt32)))])) rfl rfl (hb hby d7_31) _ k) ?_
  show WP p e below _ (T17.setTop (mkF m 32 #[.val (.ref a1), .val (.int (((1 : Int32) + ((((c0 + (1 : Int32)) - c1).toUInt32 >>> ((31 : Int32) &&& 31).toUInt32).toInt32)) + ((((c1 + (1 : Int32)) - c2).toUInt32 >>> ((31 : Int32) &&& 31).toUInt32).toInt32))), .val (.int (3 : Int32))] [(.int c2), (.int (((1 : Int32) + ((((c0 + (1 : Int32)) - c1).toUInt32 >>> ((31 : Int32) &&& 31).toUInt32).toInt32)) + ((((c1 + (1 : Int32)) - c2).toUInt32 >>> ((31 : Int32) &&& 31).toUInt32).toInt32)))]))
  refine own_go (fun t_ k => XS.iconst X17.here hx rfl (hb hby d7_32) k) ?_
  show WP p e below _ (T17.setTop (mkF m 33 #[.val (.ref a1), .val (.int (((1 : Int32) + ((((c0 + (1 : Int32)) - c1).toUInt32 >>> ((31 : Int32) &&& 31).toUInt32).toInt32)) + ((((c1 + (1 : Int32)) - c2).toUInt32 >>> ((31 : Int32) &&& 31).toUInt32).toInt32))), .val (.int (3 : Int32))] [(.int (1 : Int32)), (.int c2), (.int (((1 : Int32) + ((((c0 + (1 : Int32)) - c1).toUInt32 >>> ((31 : Int32) &&& 31).toUInt32).toInt32)) + ((((c1 + (1 : Int32)) - c2).toUInt32 >>> ((31 : Int32) &&& 31).toUInt32).toInt32)))]))
  refine own_go (fun t_ k => XS.iadd X17.here hx rfl (hb hby d7_33) rfl k) ?_
  show WP p e below _ (T17.setTop (mkF m 34 #[.val (.ref a1), .val (.int (((1 : Int32) + ((((c0 + (1 : Int32)) - c1).toUInt32 >>> ((31 : Int32) &&& 31).toUInt32).toInt32)) + ((((c1 + (1 : Int32)) - c2).toUInt32 >>> ((31 : Int32) &&& 31).toUInt32).toInt32))), .val (.int (3 : Int32))] [(.int (c2 + (1 : Int32))), (.int (((1 : Int32) + ((((c0 + (1 : Int32)) - c1).toUInt32 >>> ((31 : Int32) &&& 31).toUInt32).toInt32)) + ((((c1 + (1 : Int32)) - c2).toUInt32 >>> ((31 : Int32) &&& 31).toUInt32).toInt32)))]))
  refine own_go (fun t_ k => XS.aloadN X17.here hx rfl (hb hby d7_34) rfl rfl k) ?_
  show WP p e below _ (T17.setTop (mkF m 35 #[.val (.ref a1), .val (.int (((1 : Int32) + ((((c0 + (1 : Int32)) - c1).toUInt32 >>> ((31 : Int32) &&& 31).toUInt32).toInt32)) + ((((c1 + (1 : Int32)) - c2).toUInt32 >>> ((31 : Int32) &&& 31).toUInt32).toInt32))), .val (.int (3 : Int32))] [(.ref a1), (.int (c2 + (1 : Int32))), (.int (((1 : Int32) + ((((c0 + (1 : Int32)) - c1).toUInt32 >>> ((31 : Int32) &&& 31).toUInt32).toInt32)) + ((((c1 + (1 : Int32)) - c2).toUInt32 >>> ((31 : Int32) &&& 31).toUInt32).toInt32)))]))
  obtain ⟨T19, X19, e19, st19⟩ := getF X17 hx hZ hown (host := "") (Or.inl (hw _ (List.mem_of_getElem? (i := 25) rfl))) Via.refl e17 F_v (g := (mkF m 35 #[.val (.ref a1), .val (.int (((1 : Int32) + ((((c0 + (1 : Int32)) - c1).toUInt32 >>> ((31 : Int32) &&& 31).toUInt32).toInt32)) + ((((c1 + (1 : Int32)) - c2).toUInt32 >>> ((31 : Int32) &&& 31).toUInt32).toInt32))), .val (.int (3 : Int32))] [(.ref a1), (.int (c2 + (1 : Int32))), (.int (((1 : Int32) + ((((c0 + (1 : Int32)) - c1).toUInt32 >>> ((31 : Int32) &&& 31).toUInt32).toInt32)) + ((((c1 + (1 : Int32)) - c2).toUInt32 >>> ((31 : Int32) &&& 31).toUInt32).toInt32)))])) rfl rfl (hb hby d7_35)
  refine own_go st19 ?_
  show WP p e below _ (T19.setTop (mkF m 38 #[.val (.ref a1), .val (.int (((1 : Int32) + ((((c0 + (1 : Int32)) - c1).toUInt32 >>> ((31 : Int32) &&& 31).toUInt32).toInt32)) + ((((c1 + (1 : Int32)) - c2).toUInt32 >>> ((31 : Int32) &&& 31).toUInt32).toInt32))), .val (.int (3 : Int32))] [(.ref t), (.int (c2 + (1 : Int32))), (.int (((1 : Int32) + ((((c0 + (1 : Int32)) - c1).toUInt32 >>> ((31 : Int32) &&& 31).toUInt32).toInt32)) + ((((c1 + (1 : Int32)) - c2).toUInt32 >>> ((31 : Int32) &&& 31).toUInt32).toInt32)))]))
  refine own_go (fun t_ k => XS.iloadN X19.here hx rfl (hb hby d7_38) rfl k) ?_
  show WP p e below _ (T19.setTop (mkF m 39 #[.val (.ref a1), .val (.int (((1 : Int32) + ((((c0 + (1 : Int32)) - c1).toUInt32 >>> ((31 : Int32) &&& 31).toUInt32).toInt32)) + ((((c1 + (1 : Int32)) - c2).toUInt32 >>> ((31 : Int32) &&& 31).toUInt32).toInt32))), .val (.int (3 : Int32))] [(.int (3 : Int32)), (.ref t), (.int (c2 + (1 : Int32))), (.int (((1 : Int32) + ((((c0 + (1 : Int32)) - c1).toUInt32 >>> ((31 : Int32) &&& 31).toUInt32).toInt32)) + ((((c1 + (1 : Int32)) - c2).toUInt32 >>> ((31 : Int32) &&& 31).toUInt32).toInt32)))]))
  obtain ⟨cl20, Ar20, -, S20, M20, H20, -⟩ := id (V_t)
  have hin20 : ¬ ((3 : Int32) < 0 ∨ cl20.slots.size ≤ ((3 : Int32)).toNatClampNeg) := inb_of S20 (⟨by decide, by decide⟩)
  refine own_go (fun t_ k => X19.caload hx (j := (3 : Int32)) (v := (.int c3)) (by rw [e19]; exact Ar20.1) (State.isArrayOf_alike hZ.alike Ar20.2.1) Ar20.2.2 hin20 (H20.at hin20 rfl) (g := (mkF m 39 #[.val (.ref a1), .val (.int (((1 : Int32) + ((((c0 + (1 : Int32)) - c1).toUInt32 >>> ((31 : Int32) &&& 31).toUInt32).toInt32)) + ((((c1 + (1 : Int32)) - c2).toUInt32 >>> ((31 : Int32) &&& 31).toUInt32).toInt32))), .val (.int (3 : Int32))] [(.int (3 : Int32)), (.ref t), (.int (c2 + (1 : Int32))), (.int (((1 : Int32) + ((((c0 + (1 : Int32)) - c1).toUInt32 >>> ((31 : Int32) &&& 31).toUInt32).toInt32)) + ((((c1 + (1 : Int32)) - c2).toUInt32 >>> ((31 : Int32) &&& 31).toUInt32).toInt32)))])) rfl rfl (hb hby d7_39) _ k) ?_
  show WP p e below _ (T19.setTop (mkF m 40 #[.val (.ref a1), .val (.int (((1 : Int32) + ((((c0 + (1 : Int32)) - c1).toUInt32 >>> ((31 : Int32) &&& 31).toUInt32).toInt32)) + ((((c1 + (1 : Int32)) - c2).toUInt32 >>> ((31 : Int32) &&& 31).toUInt32).toInt32))), .val (.int (3 : Int32))] [(.int c3), (.int (c2 + (1 : Int32))), (.int (((1 : Int32) + ((((c0 + (1 : Int32)) - c1).toUInt32 >>> ((31 : Int32) &&& 31).toUInt32).toInt32)) + ((((c1 + (1 : Int32)) - c2).toUInt32 >>> ((31 : Int32) &&& 31).toUInt32).toInt32)))]))
  refine own_go (fun t_ k => XS.isub X19.here hx rfl (hb hby d7_40) rfl k) ?_
  show WP p e below _ (T19.setTop (mkF m 41 #[.val (.ref a1), .val (.int (((1 : Int32) + ((((c0 + (1 : Int32)) - c1).toUInt32 >>> ((31 : Int32) &&& 31).toUInt32).toInt32)) + ((((c1 + (1 : Int32)) - c2).toUInt32 >>> ((31 : Int32) &&& 31).toUInt32).toInt32))), .val (.int (3 : Int32))] [(.int ((c2 + (1 : Int32)) - c3)), (.int (((1 : Int32) + ((((c0 + (1 : Int32)) - c1).toUInt32 >>> ((31 : Int32) &&& 31).toUInt32).toInt32)) + ((((c1 + (1 : Int32)) - c2).toUInt32 >>> ((31 : Int32) &&& 31).toUInt32).toInt32)))]))
  refine own_go (fun t_ k => XS.bipush X19.here hx rfl (hb hby d7_41) k) ?_
  show WP p e below _ (T19.setTop (mkF m 43 #[.val (.ref a1), .val (.int (((1 : Int32) + ((((c0 + (1 : Int32)) - c1).toUInt32 >>> ((31 : Int32) &&& 31).toUInt32).toInt32)) + ((((c1 + (1 : Int32)) - c2).toUInt32 >>> ((31 : Int32) &&& 31).toUInt32).toInt32))), .val (.int (3 : Int32))] [(.int (31 : Int32)), (.int ((c2 + (1 : Int32)) - c3)), (.int (((1 : Int32) + ((((c0 + (1 : Int32)) - c1).toUInt32 >>> ((31 : Int32) &&& 31).toUInt32).toInt32)) + ((((c1 + (1 : Int32)) - c2).toUInt32 >>> ((31 : Int32) &&& 31).toUInt32).toInt32)))]))
  refine own_go (fun t_ k => XS.iushr X19.here hx rfl (hb hby d7_43) rfl k) ?_
  show WP p e below _ (T19.setTop (mkF m 44 #[.val (.ref a1), .val (.int (((1 : Int32) + ((((c0 + (1 : Int32)) - c1).toUInt32 >>> ((31 : Int32) &&& 31).toUInt32).toInt32)) + ((((c1 + (1 : Int32)) - c2).toUInt32 >>> ((31 : Int32) &&& 31).toUInt32).toInt32))), .val (.int (3 : Int32))] [(.int ((((c2 + (1 : Int32)) - c3).toUInt32 >>> ((31 : Int32) &&& 31).toUInt32).toInt32)), (.int (((1 : Int32) + ((((c0 + (1 : Int32)) - c1).toUInt32 >>> ((31 : Int32) &&& 31).toUInt32).toInt32)) + ((((c1 + (1 : Int32)) - c2).toUInt32 >>> ((31 : Int32) &&& 31).toUInt32).toInt32)))]))
  refine own_go (fun t_ k => XS.iadd X19.here hx rfl (hb hby d7_44) rfl k) ?_
  show WP p e below _ (T19.setTop (mkF m 45 #[.val (.ref a1), .val (.int (((1 : Int32) + ((((c0 + (1 : Int32)) - c1).toUInt32 >>> ((31 : Int32) &&& 31).toUInt32).toInt32)) + ((((c1 + (1 : Int32)) - c2).toUInt32 >>> ((31 : Int32) &&& 31).toUInt32).toInt32))), .val (.int (3 : Int32))] [(.int ((((1 : Int32) + ((((c0 + (1 : Int32)) - c1).toUInt32 >>> ((31 : Int32) &&& 31).toUInt32).toInt32)) + ((((c1 + (1 : Int32)) - c2).toUInt32 >>> ((31 : Int32) &&& 31).toUInt32).toInt32)) + ((((c2 + (1 : Int32)) - c3).toUInt32 >>> ((31 : Int32) &&& 31).toUInt32).toInt32)))]))
  refine own_go (fun t_ k => XS.istoreN X19.here hx rfl (hb hby d7_45) rfl (l' := #[.val (.ref a1), .val (.int ((((1 : Int32) + ((((c0 + (1 : Int32)) - c1).toUInt32 >>> ((31 : Int32) &&& 31).toUInt32).toInt32)) + ((((c1 + (1 : Int32)) - c2).toUInt32 >>> ((31 : Int32) &&& 31).toUInt32).toInt32)) + ((((c2 + (1 : Int32)) - c3).toUInt32 >>> ((31 : Int32) &&& 31).toUInt32).toInt32))), .val (.int (3 : Int32))]) rfl k) ?_
  show WP p e below _ (T19.setTop (mkF m 46 #[.val (.ref a1), .val (.int ((((1 : Int32) + ((((c0 + (1 : Int32)) - c1).toUInt32 >>> ((31 : Int32) &&& 31).toUInt32).toInt32)) + ((((c1 + (1 : Int32)) - c2).toUInt32 >>> ((31 : Int32) &&& 31).toUInt32).toInt32)) + ((((c2 + (1 : Int32)) - c3).toUInt32 >>> ((31 : Int32) &&& 31).toUInt32).toInt32))), .val (.int (3 : Int32))] []))
  refine own_go (fun t_ k => XS.iinc X19.here hx rfl (hb hby d7_46) rfl (l' := #[.val (.ref a1), .val (.int ((((1 : Int32) + ((((c0 + (1 : Int32)) - c1).toUInt32 >>> ((31 : Int32) &&& 31).toUInt32).toInt32)) + ((((c1 + (1 : Int32)) - c2).toUInt32 >>> ((31 : Int32) &&& 31).toUInt32).toInt32)) + ((((c2 + (1 : Int32)) - c3).toUInt32 >>> ((31 : Int32) &&& 31).toUInt32).toInt32))), .val (.int (4 : Int32))]) rfl k) ?_
  show WP p e below _ (T19.setTop (mkF m 49 #[.val (.ref a1), .val (.int ((((1 : Int32) + ((((c0 + (1 : Int32)) - c1).toUInt32 >>> ((31 : Int32) &&& 31).toUInt32).toInt32)) + ((((c1 + (1 : Int32)) - c2).toUInt32 >>> ((31 : Int32) &&& 31).toUInt32).toInt32)) + ((((c2 + (1 : Int32)) - c3).toUInt32 >>> ((31 : Int32) &&& 31).toUInt32).toInt32))), .val (.int (4 : Int32))] []))
  refine own_go (fun t_ k => XS.goto X19.here hx rfl (pc0 := 49) (pc' := 15) rfl (hb hby d7_49) (by decide) (by decide) k) ?_
  show WP p e below _ (T19.setTop (mkF m 15 #[.val (.ref a1), .val (.int ((((1 : Int32) + ((((c0 + (1 : Int32)) - c1).toUInt32 >>> ((31 : Int32) &&& 31).toUInt32).toInt32)) + ((((c1 + (1 : Int32)) - c2).toUInt32 >>> ((31 : Int32) &&& 31).toUInt32).toInt32)) + ((((c2 + (1 : Int32)) - c3).toUInt32 >>> ((31 : Int32) &&& 31).toUInt32).toInt32))), .val (.int (4 : Int32))] []))
  refine own_go (fun t_ k => XS.iloadN X19.here hx rfl (hb hby d7_15) rfl k) ?_
  show WP p e below _ (T19.setTop (mkF m 16 #[.val (.ref a1), .val (.int ((((1 : Int32) + ((((c0 + (1 : Int32)) - c1).toUInt32 >>> ((31 : Int32) &&& 31).toUInt32).toInt32)) + ((((c1 + (1 : Int32)) - c2).toUInt32 >>> ((31 : Int32) &&& 31).toUInt32).toInt32)) + ((((c2 + (1 : Int32)) - c3).toUInt32 >>> ((31 : Int32) &&& 31).toUInt32).toInt32))), .val (.int (4 : Int32))] [(.int (4 : Int32))]))
  refine own_go (fun t_ k => XS.aloadN X19.here hx rfl (hb hby d7_16) rfl rfl k) ?_
  show WP p e below _ (T19.setTop (mkF m 17 #[.val (.ref a1), .val (.int ((((1 : Int32) + ((((c0 + (1 : Int32)) - c1).toUInt32 >>> ((31 : Int32) &&& 31).toUInt32).toInt32)) + ((((c1 + (1 : Int32)) - c2).toUInt32 >>> ((31 : Int32) &&& 31).toUInt32).toInt32)) + ((((c2 + (1 : Int32)) - c3).toUInt32 >>> ((31 : Int32) &&& 31).toUInt32).toInt32))), .val (.int (4 : Int32))] [(.ref a1), (.int (4 : Int32))]))
  obtain ⟨T21, X21, e21, st21⟩ := getF X19 hx hZ hown (host := "") (Or.inl (hw _ (List.mem_of_getElem? (i := 27) rfl))) Via.refl e19 F_c (g := (mkF m 17 #[.val (.ref a1), .val (.int ((((1 : Int32) + ((((c0 + (1 : Int32)) - c1).toUInt32 >>> ((31 : Int32) &&& 31).toUInt32).toInt32)) + ((((c1 + (1 : Int32)) - c2).toUInt32 >>> ((31 : Int32) &&& 31).toUInt32).toInt32)) + ((((c2 + (1 : Int32)) - c3).toUInt32 >>> ((31 : Int32) &&& 31).toUInt32).toInt32))), .val (.int (4 : Int32))] [(.ref a1), (.int (4 : Int32))])) rfl rfl (hb hby d7_17)
  refine own_go st21 ?_
  show WP p e below _ (T21.setTop (mkF m 20 #[.val (.ref a1), .val (.int ((((1 : Int32) + ((((c0 + (1 : Int32)) - c1).toUInt32 >>> ((31 : Int32) &&& 31).toUInt32).toInt32)) + ((((c1 + (1 : Int32)) - c2).toUInt32 >>> ((31 : Int32) &&& 31).toUInt32).toInt32)) + ((((c2 + (1 : Int32)) - c3).toUInt32 >>> ((31 : Int32) &&& 31).toUInt32).toInt32))), .val (.int (4 : Int32))] [(.int (4 : Int32)), (.int (4 : Int32))]))
  have hc20_22 : ¬ ((4 : Int32) < (4 : Int32)) := by decide
  refine own_go (fun t_ k => XS.icmpYes X21.here hx rfl (pc0 := 20) (pc' := 52) rfl (hb hby d7_20) rfl (flt hc20_22).2.1 (by decide) (by decide) k) ?_
  show WP p e below _ (T21.setTop (mkF m 52 #[.val (.ref a1), .val (.int ((((1 : Int32) + ((((c0 + (1 : Int32)) - c1).toUInt32 >>> ((31 : Int32) &&& 31).toUInt32).toInt32)) + ((((c1 + (1 : Int32)) - c2).toUInt32 >>> ((31 : Int32) &&& 31).toUInt32).toInt32)) + ((((c2 + (1 : Int32)) - c3).toUInt32 >>> ((31 : Int32) &&& 31).toUInt32).toInt32))), .val (.int (4 : Int32))] []))
  refine own_go (fun t_ k => XS.iloadN X21.here hx rfl (hb hby d7_52) rfl k) ?_
  show WP p e below _ (T21.setTop (mkF m 53 #[.val (.ref a1), .val (.int ((((1 : Int32) + ((((c0 + (1 : Int32)) - c1).toUInt32 >>> ((31 : Int32) &&& 31).toUInt32).toInt32)) + ((((c1 + (1 : Int32)) - c2).toUInt32 >>> ((31 : Int32) &&& 31).toUInt32).toInt32)) + ((((c2 + (1 : Int32)) - c3).toUInt32 >>> ((31 : Int32) &&& 31).toUInt32).toInt32))), .val (.int (4 : Int32))] [(.int ((((1 : Int32) + ((((c0 + (1 : Int32)) - c1).toUInt32 >>> ((31 : Int32) &&& 31).toUInt32).toInt32)) + ((((c1 + (1 : Int32)) - c2).toUInt32 >>> ((31 : Int32) &&& 31).toUInt32).toInt32)) + ((((c2 + (1 : Int32)) - c3).toUInt32 >>> ((31 : Int32) &&& 31).toUInt32).toInt32)))]))
  exact own_retI X21 hx Bd.notSynchronized Bd.returns (hb hby d7_53) (show PQ h0 n0 (.int (rc4 c0 c1 c2 c3)) _ _ _ from ⟨rfl, N0, e21⟩) (by decide) (by decide)
theorem own_rem5 {p v : Int32} (h : ((p &&& (2147483647 : Int32)) % (5 : Int32)) = v) : v = 0 ∨ v = 1 ∨ v = 2 ∨ v = 3 ∨ v = 4 := by
  have a1 := c_mask p 2147483647 31 (by decide) (by decide)
  have a2 := (c_irem (p &&& 2147483647) 5 5 rfl).1
  rw [h] at a2
  have o0 : (0 : Int32).toInt = 0 := rfl
  have o1 : (1 : Int32).toInt = 1 := rfl
  have o2 : (2 : Int32).toInt = 2 := rfl
  have o3 : (3 : Int32).toInt = 3 := rfl
  have o4 : (4 : Int32).toInt = 4 := rfl
  simp only [← Int32.toInt_inj]
  omega
theorem own_gap {g d : Int32} (h : f1 g = d) : 0 ≤ d.toInt ∧ d.toInt ≤ 4095 := by
  subst h
  have a1 := c_mask ((g.toUInt32 >>> ((1 : Int32) &&& 31).toUInt32).toInt32) 3 2 (by decide) (by decide)
  have a2 := c_mask ((g.toUInt32 >>> ((1 : Int32) &&& 31).toUInt32).toInt32) 4095 12 (by decide) (by decide)
  unfold f1
  split <;> omega
theorem own_c (x : Int32) (h0 : 0 ≤ x.toInt) (h1 : x.toInt < 65536) : (x.toUInt32.toUInt16.toUInt32.toInt32) = x := by
  have a1 := c_i2c x
  exact Int32.toInt_inj.mp (by omega)
theorem own_v0 {p v : Int32} (h : (p &&& (65535 : Int32)) = v) : 0 ≤ v.toInt ∧ v.toInt < 65536 := by
  have a1 := c_mask p 65535 16 (by decide) (by decide)
  rw [h] at a1
  omega
theorem own_next {v d w : Int32} (h0 : 0 ≤ v.toInt) (h1 : v.toInt < 100000) (hd : 0 ≤ d.toInt ∧ d.toInt ≤ 4095) (h : ((v + (1 : Int32)) + d) = w) : w.toInt = v.toInt + 1 + d.toInt := by
  have a1 := c_iadd v 1
  have a2 := c_iadd (v + 1) d
  have o1 : (1 : Int32).toInt = 1 := rfl
  have r1 := rng32 (v + 1)
  rw [h] at a2
  have r2 := rng32 w
  omega
theorem own_bit {v w d : Int32} (h0 : 0 ≤ v.toInt) (h1 : w.toInt < 100000) (hd : 0 ≤ d.toInt) (hw : w.toInt = v.toInt + 1 + d.toInt) : (((v + (1 : Int32)) - w).toUInt32 >>> ((31 : Int32) &&& 31).toUInt32).toInt32 = (if d = (0 : Int32) then (0 : Int32) else 1) := by
  have a1 := c_iadd v 1
  have a2 := c_isub (v + 1) w
  have o1 : (1 : Int32).toInt = 1 := rfl
  have o0 : (0 : Int32).toInt = 0 := rfl
  have r1 := rng32 (v + 1)
  have r2 := rng32 ((v + 1) - w)
  have a3 := c_iushr ((v + 1) - w) 31 31 (by decide) (by decide)
  apply Int32.toInt_inj.mp
  rw [a3]
  by_cases q : d = 0
  · rw [if_pos q]; rw [q] at hw; omega
  · rw [if_neg q]
    have : ¬ d.toInt = 0 := fun z => q (Int32.toInt_inj.mp (by omega))
    omega
theorem pd_7 : parseMethodDescriptor "(I)I" = some ⟨[.int], some .int⟩ := by decide +kernel
theorem pd_8 : parseMethodDescriptor "(C)V" = some ⟨[.char], none⟩ := by decide +kernel
theorem pd_9 : parseMethodDescriptor "(C)Lcom/example/cairn/cairn/Container;" = some ⟨[.char], some (.object "com/example/cairn/cairn/Container")⟩ := by decide +kernel
theorem pd_10 : parseMethodDescriptor "()I" = some ⟨[], some .int⟩ := by decide +kernel
theorem own_law_1 {p1 : Int32} {p2 : Int32} {p3 : Int32} {p4 : Int32} {p5 : Int32} {vi3 : Int32} {vi5 : Int32} {vi7 : Int32} {vi9 : Int32} {vi10 : Int32} {vi11 : Int32} {vi12 : Int32} {vi27 : Int32} {z29_S0 : Int32}
    (he1 : ((p2 &&& (2147483647 : Int32)) % (5 : Int32)) = (0 : Int32))
    (he3 : (p1 &&& (65535 : Int32)) = vi3)
    (he5 : (f1 p3) = vi5)
    (he7 : (f1 p4) = vi7)
    (he9 : (f1 p5) = vi9)
    (he10 : ((vi3 + (1 : Int32)) + vi5) = vi10)
    (he11 : ((vi10 + (1 : Int32)) + vi7) = vi11)
    (he12 : ((vi11 + (1 : Int32)) + vi9) = vi12)
    (he27 : (rc0 ((vi3.toUInt32.toUInt16.toUInt32.toInt32).toUInt32.toUInt16.toUInt32.toInt32) (0 : Int32) (0 : Int32) (0 : Int32)) = vi27)
    (hz29_S0 : z29_S0 = (if vi27 = (0 : Int32) then (1 : Int32) else (0 : Int32))) (hc101_14 : ¬ ((65535 : Int32) < vi3)) : z29_S0 = 1 := by
  have bv0 := own_v0 he3
  have bd1 := own_gap he5
  have bv1 := own_next (by omega) (by omega) bd1 he10
  have bd2 := own_gap he7
  have bv2 := own_next (by omega) (by omega) bd2 he11
  have bd3 := own_gap he9
  have bv3 := own_next (by omega) (by omega) bd3 he12
  have bl := hc101_14
  rw [Int32.lt_iff_toInt_lt, show (65535 : Int32).toInt = 65535 from rfl] at bl
  rw [rc0] at he27
  subst he27
  simp_all
theorem own_law_2 {p1 : Int32} {p2 : Int32} {p3 : Int32} {p4 : Int32} {p5 : Int32} {vi31 : Int32} {vi33 : Int32} {vi35 : Int32} {vi37 : Int32} {vi38 : Int32} {vi39 : Int32} {vi40 : Int32} {vi54 : Int32} {z56_S0 : Int32}
    (he1 : ((p2 &&& (2147483647 : Int32)) % (5 : Int32)) = (1 : Int32))
    (he31 : (p1 &&& (65535 : Int32)) = vi31)
    (he33 : (f1 p3) = vi33)
    (he35 : (f1 p4) = vi35)
    (he37 : (f1 p5) = vi37)
    (he38 : ((vi31 + (1 : Int32)) + vi33) = vi38)
    (he39 : ((vi38 + (1 : Int32)) + vi35) = vi39)
    (he40 : ((vi39 + (1 : Int32)) + vi37) = vi40)
    (he54 : (rc1 ((vi31.toUInt32.toUInt16.toUInt32.toInt32).toUInt32.toUInt16.toUInt32.toInt32) (0 : Int32) (0 : Int32) (0 : Int32)) = vi54)
    (hz56_S0 : z56_S0 = (if vi54 = (1 : Int32) then (1 : Int32) else (0 : Int32))) (hc101_42 : ¬ ((65535 : Int32) < vi31)) : z56_S0 = 1 := by
  have bv0 := own_v0 he31
  have bd1 := own_gap he33
  have bv1 := own_next (by omega) (by omega) bd1 he38
  have bd2 := own_gap he35
  have bv2 := own_next (by omega) (by omega) bd2 he39
  have bd3 := own_gap he37
  have bv3 := own_next (by omega) (by omega) bd3 he40
  have bl := hc101_42
  rw [Int32.lt_iff_toInt_lt, show (65535 : Int32).toInt = 65535 from rfl] at bl
  simp only [own_c vi31 (by omega) (by omega)] at he54
  rw [rc1] at he54
  subst he54
  simp_all
theorem own_law_3 {p1 : Int32} {p2 : Int32} {p3 : Int32} {p4 : Int32} {p5 : Int32} {vi58 : Int32} {vi60 : Int32} {vi62 : Int32} {vi64 : Int32} {vi65 : Int32} {vi66 : Int32} {vi67 : Int32} {z81_L15 : Int32} {vi86 : Int32} {z88_S0 : Int32}
    (he1 : ((p2 &&& (2147483647 : Int32)) % (5 : Int32)) = (2 : Int32))
    (he58 : (p1 &&& (65535 : Int32)) = vi58)
    (he60 : (f1 p3) = vi60)
    (he62 : (f1 p4) = vi62)
    (he64 : (f1 p5) = vi64)
    (he65 : ((vi58 + (1 : Int32)) + vi60) = vi65)
    (he66 : ((vi65 + (1 : Int32)) + vi62) = vi66)
    (he67 : ((vi66 + (1 : Int32)) + vi64) = vi67)
    (hz81_L15 : z81_L15 = (if vi60 = (0 : Int32) then (1 : Int32) else (2 : Int32)))
    (he86 : (rc2 ((vi58.toUInt32.toUInt16.toUInt32.toInt32).toUInt32.toUInt16.toUInt32.toInt32) ((vi65.toUInt32.toUInt16.toUInt32.toInt32).toUInt32.toUInt16.toUInt32.toInt32) (0 : Int32) (0 : Int32)) = vi86)
    (hz88_S0 : z88_S0 = (if vi86 = z81_L15 then (1 : Int32) else (0 : Int32))) (hc101_70 : ¬ ((65535 : Int32) < vi65)) : z88_S0 = 1 := by
  have bv0 := own_v0 he58
  have bd1 := own_gap he60
  have bv1 := own_next (by omega) (by omega) bd1 he65
  have bd2 := own_gap he62
  have bv2 := own_next (by omega) (by omega) bd2 he66
  have bd3 := own_gap he64
  have bv3 := own_next (by omega) (by omega) bd3 he67
  have bl := hc101_70
  rw [Int32.lt_iff_toInt_lt, show (65535 : Int32).toInt = 65535 from rfl] at bl
  simp only [own_c vi58 (by omega) (by omega)] at he86
  simp only [own_c vi65 (by omega) (by omega)] at he86
  rw [rc2, own_bit (by omega) (by omega) bd1.1 bv1] at he86
  subst he86
  by_cases g0 : vi60 = 0 <;> simp_all
theorem own_law_4 {p1 : Int32} {p2 : Int32} {p3 : Int32} {p4 : Int32} {p5 : Int32} {vi90 : Int32} {vi92 : Int32} {vi94 : Int32} {vi96 : Int32} {vi97 : Int32} {vi98 : Int32} {vi99 : Int32} {z115_L15 : Int32} {z119_L15 : Int32} {vi123 : Int32} {z125_S0 : Int32}
    (he1 : ((p2 &&& (2147483647 : Int32)) % (5 : Int32)) = (3 : Int32))
    (he90 : (p1 &&& (65535 : Int32)) = vi90)
    (he92 : (f1 p3) = vi92)
    (he94 : (f1 p4) = vi94)
    (he96 : (f1 p5) = vi96)
    (he97 : ((vi90 + (1 : Int32)) + vi92) = vi97)
    (he98 : ((vi97 + (1 : Int32)) + vi94) = vi98)
    (he99 : ((vi98 + (1 : Int32)) + vi96) = vi99)
    (hz115_L15 : z115_L15 = (if vi92 = (0 : Int32) then (1 : Int32) else (2 : Int32)))
    (hz119_L15 : z119_L15 = (if vi94 = (0 : Int32) then z115_L15 else (z115_L15 + (1 : Int32))))
    (he123 : (rc3 ((vi90.toUInt32.toUInt16.toUInt32.toInt32).toUInt32.toUInt16.toUInt32.toInt32) ((vi97.toUInt32.toUInt16.toUInt32.toInt32).toUInt32.toUInt16.toUInt32.toInt32) ((vi98.toUInt32.toUInt16.toUInt32.toInt32).toUInt32.toUInt16.toUInt32.toInt32) (0 : Int32)) = vi123)
    (hz125_S0 : z125_S0 = (if vi123 = z119_L15 then (1 : Int32) else (0 : Int32))) (hc101_103 : ¬ ((65535 : Int32) < vi98)) : z125_S0 = 1 := by
  have bv0 := own_v0 he90
  have bd1 := own_gap he92
  have bv1 := own_next (by omega) (by omega) bd1 he97
  have bd2 := own_gap he94
  have bv2 := own_next (by omega) (by omega) bd2 he98
  have bd3 := own_gap he96
  have bv3 := own_next (by omega) (by omega) bd3 he99
  have bl := hc101_103
  rw [Int32.lt_iff_toInt_lt, show (65535 : Int32).toInt = 65535 from rfl] at bl
  simp only [own_c vi90 (by omega) (by omega)] at he123
  simp only [own_c vi97 (by omega) (by omega)] at he123
  simp only [own_c vi98 (by omega) (by omega)] at he123
  rw [rc3, own_bit (by omega) (by omega) bd1.1 bv1, own_bit (by omega) (by omega) bd2.1 bv2] at he123
  subst he123
  by_cases g0 : vi92 = 0 <;> by_cases g1 : vi94 = 0 <;> simp_all
theorem own_law_5 {p1 : Int32} {p2 : Int32} {p3 : Int32} {p4 : Int32} {p5 : Int32} {vi127 : Int32} {vi129 : Int32} {vi131 : Int32} {vi133 : Int32} {vi134 : Int32} {vi135 : Int32} {vi136 : Int32} {z153_L15 : Int32} {z157_L15 : Int32} {z161_L15 : Int32} {vi164 : Int32} {z166_S0 : Int32}
    (he1 : ((p2 &&& (2147483647 : Int32)) % (5 : Int32)) = (4 : Int32))
    (he127 : (p1 &&& (65535 : Int32)) = vi127)
    (he129 : (f1 p3) = vi129)
    (he131 : (f1 p4) = vi131)
    (he133 : (f1 p5) = vi133)
    (he134 : ((vi127 + (1 : Int32)) + vi129) = vi134)
    (he135 : ((vi134 + (1 : Int32)) + vi131) = vi135)
    (he136 : ((vi135 + (1 : Int32)) + vi133) = vi136)
    (hz153_L15 : z153_L15 = (if vi129 = (0 : Int32) then (1 : Int32) else (2 : Int32)))
    (hz157_L15 : z157_L15 = (if vi131 = (0 : Int32) then z153_L15 else (z153_L15 + (1 : Int32))))
    (hz161_L15 : z161_L15 = (if vi133 = (0 : Int32) then z157_L15 else (z157_L15 + (1 : Int32))))
    (he164 : (rc4 ((vi127.toUInt32.toUInt16.toUInt32.toInt32).toUInt32.toUInt16.toUInt32.toInt32) ((vi134.toUInt32.toUInt16.toUInt32.toInt32).toUInt32.toUInt16.toUInt32.toInt32) ((vi135.toUInt32.toUInt16.toUInt32.toInt32).toUInt32.toUInt16.toUInt32.toInt32) ((vi136.toUInt32.toUInt16.toUInt32.toInt32).toUInt32.toUInt16.toUInt32.toInt32)) = vi164)
    (hz166_S0 : z166_S0 = (if vi164 = z161_L15 then (1 : Int32) else (0 : Int32))) (hc101_140 : ¬ ((65535 : Int32) < vi136)) : z166_S0 = 1 := by
  have bv0 := own_v0 he127
  have bd1 := own_gap he129
  have bv1 := own_next (by omega) (by omega) bd1 he134
  have bd2 := own_gap he131
  have bv2 := own_next (by omega) (by omega) bd2 he135
  have bd3 := own_gap he133
  have bv3 := own_next (by omega) (by omega) bd3 he136
  have bl := hc101_140
  rw [Int32.lt_iff_toInt_lt, show (65535 : Int32).toInt = 65535 from rfl] at bl
  simp only [own_c vi127 (by omega) (by omega)] at he164
  simp only [own_c vi134 (by omega) (by omega)] at he164
  simp only [own_c vi135 (by omega) (by omega)] at he164
  simp only [own_c vi136 (by omega) (by omega)] at he164
  rw [rc4, own_bit (by omega) (by omega) bd1.1 bv1, own_bit (by omega) (by omega) bd2.1 bv2, own_bit (by omega) (by omega) bd3.1 bv3] at he164
  subst he164
  by_cases g0 : vi129 = 0 <;> by_cases g1 : vi131 = 0 <;> by_cases g2 : vi133 = 0 <;> simp_all
theorem ef_rm0 (m : MethodId) (x0 : Int32) (x1 : Int32) (x2 : Int32) (x3 : Int32) (x4 : Int32) : entryFrame m #[(.int x0), (.int x1), (.int x2), (.int x3), (.int x4)] maxLocals = mkF m 0 #[.val (.int x0), .val (.int x1), .val (.int x2), .val (.int x3), .val (.int x4), .unset, .unset, .unset, .unset, .unset, .unset, .unset, .unset, .unset, .unset, .unset] [] := by first | (simp [entryFrame, mkF, argsToLocals, Value.category, maxLocals]; done) | rfl
set_option maxRecDepth 65536 in
set_option maxHeartbeats 40000000 in
theorem rm0 (l : Launch) (Z : State) (a0 : Array Value) (hw : ∀ d ∈ tables_1, d.before a0 Z = true) (ws : List Jvm.Cond) (p1 : Int32) (p2 : Int32) (p3 : Int32) (p4 : Int32) (p5 : Int32) (u : Addr) (ku : ClassId) (h0 : Heap) (n0 : Nat) (Z0 : n0 ≤ h0.size) (S_u : Sta Z h0 "com/example/cairn/cairn/ArrayContainer" "UNMET" "[J" (.ref u)) (V_u : Arv Z h0 u ku .long (0 : Int32) [] (.long (0 : Int64))) :
    MetFree l x (head1 (Jvm.Cond.code x code maxLocals ret :: ws) room_1) (fun a U => a = #[(.int p1), (.int p2), (.int p3), (.int p4), (.int p5)] ∧ Z.Warmed39 U.vm ∧ U.heap = h0) (fun _ _ _ _ _ => True) (fun _ U o U' => ∃ v L, o = .returned v ∧ (Q0 n0) v U'.heap L ∧ FrameEnd U o U' L room_1.cells room_1.slots) := by
  refine MetFree.of_bodySF (plainFor_of_name pn_0) hisR ?_
  intro p e s m args below meth c s₁ Bd hml0 hP hK
  obtain ⟨rfl, hZ, hh⟩ := hP
  have hx := Bd.exec
  have hby := Bd.bytes
  have hml : c.maxLocals = 16 := hml0
  have hown : s.vm.findClass "com/example/cairn/cairn/ArrayContainerRunCountPinLaw" = some m.cls := findClass_of_methodNamed Bd.named
  have hnm := (name_of_methodNamed Bd.named Bd.method).1
  have X0 : Stand p l e room_1 s m #[(.int p1), (.int p2), (.int p3), (.int p4), (.int p5)] below meth c s₁ [] 0 0 := Stand.of_body Bd
  have e0 : s₁.heap = h0 := by rw [← hh, Bd.state]; rfl
  have N0 := Fr.nil n0
  show WP p e below (GG (Q0 n0) s room_1.cells room_1.slots) (s₁.setTop (entryFrame m #[(.int p1), (.int p2), (.int p3), (.int p4), (.int p5)] maxLocals))
  rw [ef_rm0 m p1 p2 p3 p4 p5]
  show WP p e below _ (s₁.setTop (mkF m 0 #[.val (.int p1), .val (.int p2), .val (.int p3), .val (.int p4), .val (.int p5), .unset, .unset, .unset, .unset, .unset, .unset, .unset, .unset, .unset, .unset, .unset] []))
  refine own_go (fun t_ k => XS.iloadN X0.here hx rfl (hb hby at_0) rfl k) ?_
  show WP p e below _ (s₁.setTop (mkF m 1 #[.val (.int p1), .val (.int p2), .val (.int p3), .val (.int p4), .val (.int p5), .unset, .unset, .unset, .unset, .unset, .unset, .unset, .unset, .unset, .unset, .unset] [(.int p2)]))
  refine own_go (fun t_ k => X0.ldcInt hx hown (mvT hZ (hw _ (List.mem_of_getElem? (i := 0) rfl))) (g := (mkF m 1 #[.val (.int p1), .val (.int p2), .val (.int p3), .val (.int p4), .val (.int p5), .unset, .unset, .unset, .unset, .unset, .unset, .unset, .unset, .unset, .unset, .unset] [(.int p2)])) rfl (hb hby at_1) _ k) ?_
  show WP p e below _ (s₁.setTop (mkF m 3 #[.val (.int p1), .val (.int p2), .val (.int p3), .val (.int p4), .val (.int p5), .unset, .unset, .unset, .unset, .unset, .unset, .unset, .unset, .unset, .unset, .unset] [(.int (2147483647 : Int32)), (.int p2)]))
  refine own_go (fun t_ k => XS.iand X0.here hx rfl (hb hby at_3) rfl k) ?_
  show WP p e below _ (s₁.setTop (mkF m 4 #[.val (.int p1), .val (.int p2), .val (.int p3), .val (.int p4), .val (.int p5), .unset, .unset, .unset, .unset, .unset, .unset, .unset, .unset, .unset, .unset, .unset] [(.int (p2 &&& (2147483647 : Int32)))]))
  refine own_go (fun t_ k => XS.iconst X0.here hx rfl (hb hby at_4) k) ?_
  show WP p e below _ (s₁.setTop (mkF m 5 #[.val (.int p1), .val (.int p2), .val (.int p3), .val (.int p4), .val (.int p5), .unset, .unset, .unset, .unset, .unset, .unset, .unset, .unset, .unset, .unset, .unset] [(.int (5 : Int32)), (.int (p2 &&& (2147483647 : Int32)))]))
  refine own_go (fun t_ k => iremM X0 hx rfl (hb hby at_5) rfl (by decide) k) ?_
  show WP p e below _ (s₁.setTop (mkF m 6 #[.val (.int p1), .val (.int p2), .val (.int p3), .val (.int p4), .val (.int p5), .unset, .unset, .unset, .unset, .unset, .unset, .unset, .unset, .unset, .unset, .unset] [(.int ((p2 &&& (2147483647 : Int32)) % (5 : Int32)))]))
  refine own_go (fun t_ k => XS.istore X0.here hx rfl (hb hby at_6) rfl (l' := #[.val (.int p1), .val (.int p2), .val (.int p3), .val (.int p4), .val (.int p5), .val (.int ((p2 &&& (2147483647 : Int32)) % (5 : Int32))), .unset, .unset, .unset, .unset, .unset, .unset, .unset, .unset, .unset, .unset]) rfl k) ?_
  show WP p e below _ (s₁.setTop (mkF m 8 #[.val (.int p1), .val (.int p2), .val (.int p3), .val (.int p4), .val (.int p5), .val (.int ((p2 &&& (2147483647 : Int32)) % (5 : Int32))), .unset, .unset, .unset, .unset, .unset, .unset, .unset, .unset, .unset, .unset] []))
  generalize he1 : ((p2 &&& (2147483647 : Int32)) % (5 : Int32)) = vi1
  rcases own_rem5 he1 with hs2 | hs2 | hs2 | hs2 | hs2
  · subst hs2
    show WP p e below _ (s₁.setTop (mkF m 8 #[.val (.int p1), .val (.int p2), .val (.int p3), .val (.int p4), .val (.int p5), .val (.int (0 : Int32)), .unset, .unset, .unset, .unset, .unset, .unset, .unset, .unset, .unset, .unset] []))
    refine own_go (fun t_ k => XS.iloadN X0.here hx rfl (hb hby at_8) rfl k) ?_
    show WP p e below _ (s₁.setTop (mkF m 9 #[.val (.int p1), .val (.int p2), .val (.int p3), .val (.int p4), .val (.int p5), .val (.int (0 : Int32)), .unset, .unset, .unset, .unset, .unset, .unset, .unset, .unset, .unset, .unset] [(.int p1)]))
    refine own_go (fun t_ k => X0.ldcInt hx hown (mvT hZ (hw _ (List.mem_of_getElem? (i := 1) rfl))) (g := (mkF m 9 #[.val (.int p1), .val (.int p2), .val (.int p3), .val (.int p4), .val (.int p5), .val (.int (0 : Int32)), .unset, .unset, .unset, .unset, .unset, .unset, .unset, .unset, .unset, .unset] [(.int p1)])) rfl (hb hby at_9) _ k) ?_
    show WP p e below _ (s₁.setTop (mkF m 11 #[.val (.int p1), .val (.int p2), .val (.int p3), .val (.int p4), .val (.int p5), .val (.int (0 : Int32)), .unset, .unset, .unset, .unset, .unset, .unset, .unset, .unset, .unset, .unset] [(.int (65535 : Int32)), (.int p1)]))
    refine own_go (fun t_ k => XS.iand X0.here hx rfl (hb hby at_11) rfl k) ?_
    show WP p e below _ (s₁.setTop (mkF m 12 #[.val (.int p1), .val (.int p2), .val (.int p3), .val (.int p4), .val (.int p5), .val (.int (0 : Int32)), .unset, .unset, .unset, .unset, .unset, .unset, .unset, .unset, .unset, .unset] [(.int (p1 &&& (65535 : Int32)))]))
    refine own_go (fun t_ k => XS.istore X0.here hx rfl (hb hby at_12) rfl (l' := #[.val (.int p1), .val (.int p2), .val (.int p3), .val (.int p4), .val (.int p5), .val (.int (0 : Int32)), .val (.int (p1 &&& (65535 : Int32))), .unset, .unset, .unset, .unset, .unset, .unset, .unset, .unset, .unset]) rfl k) ?_
    show WP p e below _ (s₁.setTop (mkF m 14 #[.val (.int p1), .val (.int p2), .val (.int p3), .val (.int p4), .val (.int p5), .val (.int (0 : Int32)), .val (.int (p1 &&& (65535 : Int32))), .unset, .unset, .unset, .unset, .unset, .unset, .unset, .unset, .unset] []))
    generalize he3 : (p1 &&& (65535 : Int32)) = vi3
    show WP p e below _ (s₁.setTop (mkF m 14 #[.val (.int p1), .val (.int p2), .val (.int p3), .val (.int p4), .val (.int p5), .val (.int (0 : Int32)), .val (.int vi3), .unset, .unset, .unset, .unset, .unset, .unset, .unset, .unset, .unset] []))
    refine own_go (fun t_ k => XS.iloadN X0.here hx rfl (hb hby at_14) rfl k) ?_
    show WP p e below _ (s₁.setTop (mkF m 15 #[.val (.int p1), .val (.int p2), .val (.int p3), .val (.int p4), .val (.int p5), .val (.int (0 : Int32)), .val (.int vi3), .unset, .unset, .unset, .unset, .unset, .unset, .unset, .unset, .unset] [(.int p3)]))
    obtain ⟨_, _, ⟨T4, L4, k4, n4⟩, -, X4, ⟨Lc4, hQ4, l4, y4, z4⟩, st4⟩ := Jvm.LawKit.callS X0 hx (y := (⟨"com/example/cairn/cairn/ArrayContainerRunCountPinLaw", "gap", "(I)I"⟩ : MethodName)) hown (mvT hZ (hw _ (List.mem_of_getElem? (i := 2) rfl))) (mvT hZ (hw _ (List.mem_of_getElem? (i := 3) rfl))) (mvT hZ (hw _ (List.mem_of_getElem? (i := 4) rfl))) (mvT hZ (hw _ (List.mem_of_getElem? (i := 5) rfl))) (by decide) (backOf (W := 0) (rm1 l Z a0 hw [] p3 h0 n0) hZ (hw _ (List.mem_of_getElem? (i := 5) rfl)) (hw _ (List.mem_of_getElem? (i := 4) rfl)) (by decide) (by decide)) (g := (mkF m 15 #[.val (.int p1), .val (.int p2), .val (.int p3), .val (.int p4), .val (.int p5), .val (.int (0 : Int32)), .val (.int vi3), .unset, .unset, .unset, .unset, .unset, .unset, .unset, .unset, .unset] [(.int p3)])) rfl (by rw [hml]; rfl) (argsL := [(.int p3)]) (rest := []) (lenOf pd_7 rfl) rfl (by show 2 * 0 + _ ≤ _; exact Nat.le_of_eq rfl) (hb hby at_15) (fun _ _ => ⟨rfl, e0, (by decide : 0 + 0 ≤ _), (by decide : 0 + 0 ≤ _)⟩)
    dsimp only [Pt.U, Pt.locs, Pt.cells, Pt.slots] at X4 l4 y4 z4 st4 hQ4
    subst l4 y4 z4
    obtain ⟨rfl, N4q, e4⟩ := hQ4
    have N4 := Fr.app N0 N4q
    replace X4 : Stand p l e room_1 s m _ below meth c T4 _ 0 0 := X4
    refine own_go st4 ?_
    show WP p e below _ (T4.setTop (mkF m 18 #[.val (.int p1), .val (.int p2), .val (.int p3), .val (.int p4), .val (.int p5), .val (.int (0 : Int32)), .val (.int vi3), .unset, .unset, .unset, .unset, .unset, .unset, .unset, .unset, .unset] [(.int (f1 p3))]))
    generalize he5 : (f1 p3) = vi5
    show WP p e below _ (T4.setTop (mkF m 18 #[.val (.int p1), .val (.int p2), .val (.int p3), .val (.int p4), .val (.int p5), .val (.int (0 : Int32)), .val (.int vi3), .unset, .unset, .unset, .unset, .unset, .unset, .unset, .unset, .unset] [(.int vi5)]))
    refine own_go (fun t_ k => XS.istore X4.here hx rfl (hb hby at_18) rfl (l' := #[.val (.int p1), .val (.int p2), .val (.int p3), .val (.int p4), .val (.int p5), .val (.int (0 : Int32)), .val (.int vi3), .val (.int vi5), .unset, .unset, .unset, .unset, .unset, .unset, .unset, .unset]) rfl k) ?_
    show WP p e below _ (T4.setTop (mkF m 20 #[.val (.int p1), .val (.int p2), .val (.int p3), .val (.int p4), .val (.int p5), .val (.int (0 : Int32)), .val (.int vi3), .val (.int vi5), .unset, .unset, .unset, .unset, .unset, .unset, .unset, .unset] []))
    refine own_go (fun t_ k => XS.iloadN X4.here hx rfl (hb hby at_20) rfl k) ?_
    show WP p e below _ (T4.setTop (mkF m 21 #[.val (.int p1), .val (.int p2), .val (.int p3), .val (.int p4), .val (.int p5), .val (.int (0 : Int32)), .val (.int vi3), .val (.int vi5), .unset, .unset, .unset, .unset, .unset, .unset, .unset, .unset] [(.int p4)]))
    obtain ⟨_, _, ⟨T6, L6, k6, n6⟩, -, X6, ⟨Lc6, hQ6, l6, y6, z6⟩, st6⟩ := Jvm.LawKit.callS X4 hx (y := (⟨"com/example/cairn/cairn/ArrayContainerRunCountPinLaw", "gap", "(I)I"⟩ : MethodName)) hown (mvT hZ (hw _ (List.mem_of_getElem? (i := 2) rfl))) (mvT hZ (hw _ (List.mem_of_getElem? (i := 3) rfl))) (mvT hZ (hw _ (List.mem_of_getElem? (i := 4) rfl))) (mvT hZ (hw _ (List.mem_of_getElem? (i := 5) rfl))) (by decide) (backOf (W := 0) (rm1 l Z a0 hw [] p4 h0 n0) hZ (hw _ (List.mem_of_getElem? (i := 5) rfl)) (hw _ (List.mem_of_getElem? (i := 4) rfl)) (by decide) (by decide)) (g := (mkF m 21 #[.val (.int p1), .val (.int p2), .val (.int p3), .val (.int p4), .val (.int p5), .val (.int (0 : Int32)), .val (.int vi3), .val (.int vi5), .unset, .unset, .unset, .unset, .unset, .unset, .unset, .unset] [(.int p4)])) rfl (by rw [hml]; rfl) (argsL := [(.int p4)]) (rest := []) (lenOf pd_7 rfl) rfl (by show 2 * 0 + _ ≤ _; exact Nat.le_of_eq rfl) (hb hby at_21) (fun _ _ => ⟨rfl, e4, (by decide : 0 + 0 ≤ _), (by decide : 0 + 0 ≤ _)⟩)
    dsimp only [Pt.U, Pt.locs, Pt.cells, Pt.slots] at X6 l6 y6 z6 st6 hQ6
    subst l6 y6 z6
    obtain ⟨rfl, N6q, e6⟩ := hQ6
    have N6 := Fr.app N4 N6q
    replace X6 : Stand p l e room_1 s m _ below meth c T6 _ 0 0 := X6
    refine own_go st6 ?_
    show WP p e below _ (T6.setTop (mkF m 24 #[.val (.int p1), .val (.int p2), .val (.int p3), .val (.int p4), .val (.int p5), .val (.int (0 : Int32)), .val (.int vi3), .val (.int vi5), .unset, .unset, .unset, .unset, .unset, .unset, .unset, .unset] [(.int (f1 p4))]))
    generalize he7 : (f1 p4) = vi7
    show WP p e below _ (T6.setTop (mkF m 24 #[.val (.int p1), .val (.int p2), .val (.int p3), .val (.int p4), .val (.int p5), .val (.int (0 : Int32)), .val (.int vi3), .val (.int vi5), .unset, .unset, .unset, .unset, .unset, .unset, .unset, .unset] [(.int vi7)]))
    refine own_go (fun t_ k => XS.istore X6.here hx rfl (hb hby at_24) rfl (l' := #[.val (.int p1), .val (.int p2), .val (.int p3), .val (.int p4), .val (.int p5), .val (.int (0 : Int32)), .val (.int vi3), .val (.int vi5), .val (.int vi7), .unset, .unset, .unset, .unset, .unset, .unset, .unset]) rfl k) ?_
    show WP p e below _ (T6.setTop (mkF m 26 #[.val (.int p1), .val (.int p2), .val (.int p3), .val (.int p4), .val (.int p5), .val (.int (0 : Int32)), .val (.int vi3), .val (.int vi5), .val (.int vi7), .unset, .unset, .unset, .unset, .unset, .unset, .unset] []))
    refine own_go (fun t_ k => XS.iload X6.here hx rfl (hb hby at_26) rfl k) ?_
    show WP p e below _ (T6.setTop (mkF m 28 #[.val (.int p1), .val (.int p2), .val (.int p3), .val (.int p4), .val (.int p5), .val (.int (0 : Int32)), .val (.int vi3), .val (.int vi5), .val (.int vi7), .unset, .unset, .unset, .unset, .unset, .unset, .unset] [(.int p5)]))
    obtain ⟨_, _, ⟨T8, L8, k8, n8⟩, -, X8, ⟨Lc8, hQ8, l8, y8, z8⟩, st8⟩ := Jvm.LawKit.callS X6 hx (y := (⟨"com/example/cairn/cairn/ArrayContainerRunCountPinLaw", "gap", "(I)I"⟩ : MethodName)) hown (mvT hZ (hw _ (List.mem_of_getElem? (i := 2) rfl))) (mvT hZ (hw _ (List.mem_of_getElem? (i := 3) rfl))) (mvT hZ (hw _ (List.mem_of_getElem? (i := 4) rfl))) (mvT hZ (hw _ (List.mem_of_getElem? (i := 5) rfl))) (by decide) (backOf (W := 0) (rm1 l Z a0 hw [] p5 h0 n0) hZ (hw _ (List.mem_of_getElem? (i := 5) rfl)) (hw _ (List.mem_of_getElem? (i := 4) rfl)) (by decide) (by decide)) (g := (mkF m 28 #[.val (.int p1), .val (.int p2), .val (.int p3), .val (.int p4), .val (.int p5), .val (.int (0 : Int32)), .val (.int vi3), .val (.int vi5), .val (.int vi7), .unset, .unset, .unset, .unset, .unset, .unset, .unset] [(.int p5)])) rfl (by rw [hml]; rfl) (argsL := [(.int p5)]) (rest := []) (lenOf pd_7 rfl) rfl (by show 2 * 0 + _ ≤ _; exact Nat.le_of_eq rfl) (hb hby at_28) (fun _ _ => ⟨rfl, e6, (by decide : 0 + 0 ≤ _), (by decide : 0 + 0 ≤ _)⟩)
    dsimp only [Pt.U, Pt.locs, Pt.cells, Pt.slots] at X8 l8 y8 z8 st8 hQ8
    subst l8 y8 z8
    obtain ⟨rfl, N8q, e8⟩ := hQ8
    have N8 := Fr.app N6 N8q
    replace X8 : Stand p l e room_1 s m _ below meth c T8 _ 0 0 := X8
    refine own_go st8 ?_
    show WP p e below _ (T8.setTop (mkF m 31 #[.val (.int p1), .val (.int p2), .val (.int p3), .val (.int p4), .val (.int p5), .val (.int (0 : Int32)), .val (.int vi3), .val (.int vi5), .val (.int vi7), .unset, .unset, .unset, .unset, .unset, .unset, .unset] [(.int (f1 p5))]))
    generalize he9 : (f1 p5) = vi9
    show WP p e below _ (T8.setTop (mkF m 31 #[.val (.int p1), .val (.int p2), .val (.int p3), .val (.int p4), .val (.int p5), .val (.int (0 : Int32)), .val (.int vi3), .val (.int vi5), .val (.int vi7), .unset, .unset, .unset, .unset, .unset, .unset, .unset] [(.int vi9)]))
    refine own_go (fun t_ k => XS.istore X8.here hx rfl (hb hby at_31) rfl (l' := #[.val (.int p1), .val (.int p2), .val (.int p3), .val (.int p4), .val (.int p5), .val (.int (0 : Int32)), .val (.int vi3), .val (.int vi5), .val (.int vi7), .val (.int vi9), .unset, .unset, .unset, .unset, .unset, .unset]) rfl k) ?_
    show WP p e below _ (T8.setTop (mkF m 33 #[.val (.int p1), .val (.int p2), .val (.int p3), .val (.int p4), .val (.int p5), .val (.int (0 : Int32)), .val (.int vi3), .val (.int vi5), .val (.int vi7), .val (.int vi9), .unset, .unset, .unset, .unset, .unset, .unset] []))
    refine own_go (fun t_ k => XS.iload X8.here hx rfl (hb hby at_33) rfl k) ?_
    show WP p e below _ (T8.setTop (mkF m 35 #[.val (.int p1), .val (.int p2), .val (.int p3), .val (.int p4), .val (.int p5), .val (.int (0 : Int32)), .val (.int vi3), .val (.int vi5), .val (.int vi7), .val (.int vi9), .unset, .unset, .unset, .unset, .unset, .unset] [(.int vi3)]))
    refine own_go (fun t_ k => XS.iconst X8.here hx rfl (hb hby at_35) k) ?_
    show WP p e below _ (T8.setTop (mkF m 36 #[.val (.int p1), .val (.int p2), .val (.int p3), .val (.int p4), .val (.int p5), .val (.int (0 : Int32)), .val (.int vi3), .val (.int vi5), .val (.int vi7), .val (.int vi9), .unset, .unset, .unset, .unset, .unset, .unset] [(.int (1 : Int32)), (.int vi3)]))
    refine own_go (fun t_ k => XS.iadd X8.here hx rfl (hb hby at_36) rfl k) ?_
    show WP p e below _ (T8.setTop (mkF m 37 #[.val (.int p1), .val (.int p2), .val (.int p3), .val (.int p4), .val (.int p5), .val (.int (0 : Int32)), .val (.int vi3), .val (.int vi5), .val (.int vi7), .val (.int vi9), .unset, .unset, .unset, .unset, .unset, .unset] [(.int (vi3 + (1 : Int32)))]))
    refine own_go (fun t_ k => XS.iload X8.here hx rfl (hb hby at_37) rfl k) ?_
    show WP p e below _ (T8.setTop (mkF m 39 #[.val (.int p1), .val (.int p2), .val (.int p3), .val (.int p4), .val (.int p5), .val (.int (0 : Int32)), .val (.int vi3), .val (.int vi5), .val (.int vi7), .val (.int vi9), .unset, .unset, .unset, .unset, .unset, .unset] [(.int vi5), (.int (vi3 + (1 : Int32)))]))
    refine own_go (fun t_ k => XS.iadd X8.here hx rfl (hb hby at_39) rfl k) ?_
    show WP p e below _ (T8.setTop (mkF m 40 #[.val (.int p1), .val (.int p2), .val (.int p3), .val (.int p4), .val (.int p5), .val (.int (0 : Int32)), .val (.int vi3), .val (.int vi5), .val (.int vi7), .val (.int vi9), .unset, .unset, .unset, .unset, .unset, .unset] [(.int ((vi3 + (1 : Int32)) + vi5))]))
    refine own_go (fun t_ k => XS.istore X8.here hx rfl (hb hby at_40) rfl (l' := #[.val (.int p1), .val (.int p2), .val (.int p3), .val (.int p4), .val (.int p5), .val (.int (0 : Int32)), .val (.int vi3), .val (.int vi5), .val (.int vi7), .val (.int vi9), .val (.int ((vi3 + (1 : Int32)) + vi5)), .unset, .unset, .unset, .unset, .unset]) rfl k) ?_
    show WP p e below _ (T8.setTop (mkF m 42 #[.val (.int p1), .val (.int p2), .val (.int p3), .val (.int p4), .val (.int p5), .val (.int (0 : Int32)), .val (.int vi3), .val (.int vi5), .val (.int vi7), .val (.int vi9), .val (.int ((vi3 + (1 : Int32)) + vi5)), .unset, .unset, .unset, .unset, .unset] []))
    generalize he10 : ((vi3 + (1 : Int32)) + vi5) = vi10
    show WP p e below _ (T8.setTop (mkF m 42 #[.val (.int p1), .val (.int p2), .val (.int p3), .val (.int p4), .val (.int p5), .val (.int (0 : Int32)), .val (.int vi3), .val (.int vi5), .val (.int vi7), .val (.int vi9), .val (.int vi10), .unset, .unset, .unset, .unset, .unset] []))
    refine own_go (fun t_ k => XS.iload X8.here hx rfl (hb hby at_42) rfl k) ?_
    show WP p e below _ (T8.setTop (mkF m 44 #[.val (.int p1), .val (.int p2), .val (.int p3), .val (.int p4), .val (.int p5), .val (.int (0 : Int32)), .val (.int vi3), .val (.int vi5), .val (.int vi7), .val (.int vi9), .val (.int vi10), .unset, .unset, .unset, .unset, .unset] [(.int vi10)]))
    refine own_go (fun t_ k => XS.iconst X8.here hx rfl (hb hby at_44) k) ?_
    show WP p e below _ (T8.setTop (mkF m 45 #[.val (.int p1), .val (.int p2), .val (.int p3), .val (.int p4), .val (.int p5), .val (.int (0 : Int32)), .val (.int vi3), .val (.int vi5), .val (.int vi7), .val (.int vi9), .val (.int vi10), .unset, .unset, .unset, .unset, .unset] [(.int (1 : Int32)), (.int vi10)]))
    refine own_go (fun t_ k => XS.iadd X8.here hx rfl (hb hby at_45) rfl k) ?_
    show WP p e below _ (T8.setTop (mkF m 46 #[.val (.int p1), .val (.int p2), .val (.int p3), .val (.int p4), .val (.int p5), .val (.int (0 : Int32)), .val (.int vi3), .val (.int vi5), .val (.int vi7), .val (.int vi9), .val (.int vi10), .unset, .unset, .unset, .unset, .unset] [(.int (vi10 + (1 : Int32)))]))
    refine own_go (fun t_ k => XS.iload X8.here hx rfl (hb hby at_46) rfl k) ?_
    show WP p e below _ (T8.setTop (mkF m 48 #[.val (.int p1), .val (.int p2), .val (.int p3), .val (.int p4), .val (.int p5), .val (.int (0 : Int32)), .val (.int vi3), .val (.int vi5), .val (.int vi7), .val (.int vi9), .val (.int vi10), .unset, .unset, .unset, .unset, .unset] [(.int vi7), (.int (vi10 + (1 : Int32)))]))
    refine own_go (fun t_ k => XS.iadd X8.here hx rfl (hb hby at_48) rfl k) ?_
    show WP p e below _ (T8.setTop (mkF m 49 #[.val (.int p1), .val (.int p2), .val (.int p3), .val (.int p4), .val (.int p5), .val (.int (0 : Int32)), .val (.int vi3), .val (.int vi5), .val (.int vi7), .val (.int vi9), .val (.int vi10), .unset, .unset, .unset, .unset, .unset] [(.int ((vi10 + (1 : Int32)) + vi7))]))
    refine own_go (fun t_ k => XS.istore X8.here hx rfl (hb hby at_49) rfl (l' := #[.val (.int p1), .val (.int p2), .val (.int p3), .val (.int p4), .val (.int p5), .val (.int (0 : Int32)), .val (.int vi3), .val (.int vi5), .val (.int vi7), .val (.int vi9), .val (.int vi10), .val (.int ((vi10 + (1 : Int32)) + vi7)), .unset, .unset, .unset, .unset]) rfl k) ?_
    show WP p e below _ (T8.setTop (mkF m 51 #[.val (.int p1), .val (.int p2), .val (.int p3), .val (.int p4), .val (.int p5), .val (.int (0 : Int32)), .val (.int vi3), .val (.int vi5), .val (.int vi7), .val (.int vi9), .val (.int vi10), .val (.int ((vi10 + (1 : Int32)) + vi7)), .unset, .unset, .unset, .unset] []))
    generalize he11 : ((vi10 + (1 : Int32)) + vi7) = vi11
    show WP p e below _ (T8.setTop (mkF m 51 #[.val (.int p1), .val (.int p2), .val (.int p3), .val (.int p4), .val (.int p5), .val (.int (0 : Int32)), .val (.int vi3), .val (.int vi5), .val (.int vi7), .val (.int vi9), .val (.int vi10), .val (.int vi11), .unset, .unset, .unset, .unset] []))
    refine own_go (fun t_ k => XS.iload X8.here hx rfl (hb hby at_51) rfl k) ?_
    show WP p e below _ (T8.setTop (mkF m 53 #[.val (.int p1), .val (.int p2), .val (.int p3), .val (.int p4), .val (.int p5), .val (.int (0 : Int32)), .val (.int vi3), .val (.int vi5), .val (.int vi7), .val (.int vi9), .val (.int vi10), .val (.int vi11), .unset, .unset, .unset, .unset] [(.int vi11)]))
    refine own_go (fun t_ k => XS.iconst X8.here hx rfl (hb hby at_53) k) ?_
    show WP p e below _ (T8.setTop (mkF m 54 #[.val (.int p1), .val (.int p2), .val (.int p3), .val (.int p4), .val (.int p5), .val (.int (0 : Int32)), .val (.int vi3), .val (.int vi5), .val (.int vi7), .val (.int vi9), .val (.int vi10), .val (.int vi11), .unset, .unset, .unset, .unset] [(.int (1 : Int32)), (.int vi11)]))
    refine own_go (fun t_ k => XS.iadd X8.here hx rfl (hb hby at_54) rfl k) ?_
    show WP p e below _ (T8.setTop (mkF m 55 #[.val (.int p1), .val (.int p2), .val (.int p3), .val (.int p4), .val (.int p5), .val (.int (0 : Int32)), .val (.int vi3), .val (.int vi5), .val (.int vi7), .val (.int vi9), .val (.int vi10), .val (.int vi11), .unset, .unset, .unset, .unset] [(.int (vi11 + (1 : Int32)))]))
    refine own_go (fun t_ k => XS.iload X8.here hx rfl (hb hby at_55) rfl k) ?_
    show WP p e below _ (T8.setTop (mkF m 57 #[.val (.int p1), .val (.int p2), .val (.int p3), .val (.int p4), .val (.int p5), .val (.int (0 : Int32)), .val (.int vi3), .val (.int vi5), .val (.int vi7), .val (.int vi9), .val (.int vi10), .val (.int vi11), .unset, .unset, .unset, .unset] [(.int vi9), (.int (vi11 + (1 : Int32)))]))
    refine own_go (fun t_ k => XS.iadd X8.here hx rfl (hb hby at_57) rfl k) ?_
    show WP p e below _ (T8.setTop (mkF m 58 #[.val (.int p1), .val (.int p2), .val (.int p3), .val (.int p4), .val (.int p5), .val (.int (0 : Int32)), .val (.int vi3), .val (.int vi5), .val (.int vi7), .val (.int vi9), .val (.int vi10), .val (.int vi11), .unset, .unset, .unset, .unset] [(.int ((vi11 + (1 : Int32)) + vi9))]))
    refine own_go (fun t_ k => XS.istore X8.here hx rfl (hb hby at_58) rfl (l' := #[.val (.int p1), .val (.int p2), .val (.int p3), .val (.int p4), .val (.int p5), .val (.int (0 : Int32)), .val (.int vi3), .val (.int vi5), .val (.int vi7), .val (.int vi9), .val (.int vi10), .val (.int vi11), .val (.int ((vi11 + (1 : Int32)) + vi9)), .unset, .unset, .unset]) rfl k) ?_
    show WP p e below _ (T8.setTop (mkF m 60 #[.val (.int p1), .val (.int p2), .val (.int p3), .val (.int p4), .val (.int p5), .val (.int (0 : Int32)), .val (.int vi3), .val (.int vi5), .val (.int vi7), .val (.int vi9), .val (.int vi10), .val (.int vi11), .val (.int ((vi11 + (1 : Int32)) + vi9)), .unset, .unset, .unset] []))
    generalize he12 : ((vi11 + (1 : Int32)) + vi9) = vi12
    show WP p e below _ (T8.setTop (mkF m 60 #[.val (.int p1), .val (.int p2), .val (.int p3), .val (.int p4), .val (.int p5), .val (.int (0 : Int32)), .val (.int vi3), .val (.int vi5), .val (.int vi7), .val (.int vi9), .val (.int vi10), .val (.int vi11), .val (.int vi12), .unset, .unset, .unset] []))
    refine own_go (fun t_ k => XS.iload X8.here hx rfl (hb hby at_60) rfl k) ?_
    show WP p e below _ (T8.setTop (mkF m 62 #[.val (.int p1), .val (.int p2), .val (.int p3), .val (.int p4), .val (.int p5), .val (.int (0 : Int32)), .val (.int vi3), .val (.int vi5), .val (.int vi7), .val (.int vi9), .val (.int vi10), .val (.int vi11), .val (.int vi12), .unset, .unset, .unset] [(.int (0 : Int32))]))
    refine own_go (fun t_ k => XS.iconst X8.here hx rfl (hb hby at_62) k) ?_
    show WP p e below _ (T8.setTop (mkF m 63 #[.val (.int p1), .val (.int p2), .val (.int p3), .val (.int p4), .val (.int p5), .val (.int (0 : Int32)), .val (.int vi3), .val (.int vi5), .val (.int vi7), .val (.int vi9), .val (.int vi10), .val (.int vi11), .val (.int vi12), .unset, .unset, .unset] [(.int (1 : Int32)), (.int (0 : Int32))]))
    have hc63_13 : ¬ ((1 : Int32) < (0 : Int32)) := by decide
    refine own_go (fun t_ k => XS.icmpNo X8.here hx rfl (hb hby at_63) rfl (flt hc63_13).2.2.1 k) ?_
    show WP p e below _ (T8.setTop (mkF m 66 #[.val (.int p1), .val (.int p2), .val (.int p3), .val (.int p4), .val (.int p5), .val (.int (0 : Int32)), .val (.int vi3), .val (.int vi5), .val (.int vi7), .val (.int vi9), .val (.int vi10), .val (.int vi11), .val (.int vi12), .unset, .unset, .unset] []))
    refine own_go (fun t_ k => XS.iload X8.here hx rfl (hb hby at_66) rfl k) ?_
    show WP p e below _ (T8.setTop (mkF m 68 #[.val (.int p1), .val (.int p2), .val (.int p3), .val (.int p4), .val (.int p5), .val (.int (0 : Int32)), .val (.int vi3), .val (.int vi5), .val (.int vi7), .val (.int vi9), .val (.int vi10), .val (.int vi11), .val (.int vi12), .unset, .unset, .unset] [(.int vi3)]))
    refine own_go (fun t_ k => XS.goto X8.here hx rfl (pc0 := 68) (pc' := 95) rfl (hb hby at_68) (by decide) (by decide) k) ?_
    show WP p e below _ (T8.setTop (mkF m 95 #[.val (.int p1), .val (.int p2), .val (.int p3), .val (.int p4), .val (.int p5), .val (.int (0 : Int32)), .val (.int vi3), .val (.int vi5), .val (.int vi7), .val (.int vi9), .val (.int vi10), .val (.int vi11), .val (.int vi12), .unset, .unset, .unset] [(.int vi3)]))
    refine own_go (fun t_ k => XS.istore X8.here hx rfl (hb hby at_95) rfl (l' := #[.val (.int p1), .val (.int p2), .val (.int p3), .val (.int p4), .val (.int p5), .val (.int (0 : Int32)), .val (.int vi3), .val (.int vi5), .val (.int vi7), .val (.int vi9), .val (.int vi10), .val (.int vi11), .val (.int vi12), .val (.int vi3), .unset, .unset]) rfl k) ?_
    show WP p e below _ (T8.setTop (mkF m 97 #[.val (.int p1), .val (.int p2), .val (.int p3), .val (.int p4), .val (.int p5), .val (.int (0 : Int32)), .val (.int vi3), .val (.int vi5), .val (.int vi7), .val (.int vi9), .val (.int vi10), .val (.int vi11), .val (.int vi12), .val (.int vi3), .unset, .unset] []))
    refine own_go (fun t_ k => XS.iload X8.here hx rfl (hb hby at_97) rfl k) ?_
    show WP p e below _ (T8.setTop (mkF m 99 #[.val (.int p1), .val (.int p2), .val (.int p3), .val (.int p4), .val (.int p5), .val (.int (0 : Int32)), .val (.int vi3), .val (.int vi5), .val (.int vi7), .val (.int vi9), .val (.int vi10), .val (.int vi11), .val (.int vi12), .val (.int vi3), .unset, .unset] [(.int vi3)]))
    refine own_go (fun t_ k => X8.ldcInt hx hown (mvT hZ (hw _ (List.mem_of_getElem? (i := 1) rfl))) (g := (mkF m 99 #[.val (.int p1), .val (.int p2), .val (.int p3), .val (.int p4), .val (.int p5), .val (.int (0 : Int32)), .val (.int vi3), .val (.int vi5), .val (.int vi7), .val (.int vi9), .val (.int vi10), .val (.int vi11), .val (.int vi12), .val (.int vi3), .unset, .unset] [(.int vi3)])) rfl (hb hby at_99) _ k) ?_
    show WP p e below _ (T8.setTop (mkF m 101 #[.val (.int p1), .val (.int p2), .val (.int p3), .val (.int p4), .val (.int p5), .val (.int (0 : Int32)), .val (.int vi3), .val (.int vi5), .val (.int vi7), .val (.int vi9), .val (.int vi10), .val (.int vi11), .val (.int vi12), .val (.int vi3), .unset, .unset] [(.int (65535 : Int32)), (.int vi3)]))
    by_cases hc101_14 : (65535 : Int32) < vi3
    · refine own_go (fun t_ k => XS.icmpNo X8.here hx rfl (hb hby at_101) rfl (tlt hc101_14).2.2.2 k) ?_
      show WP p e below _ (T8.setTop (mkF m 104 #[.val (.int p1), .val (.int p2), .val (.int p3), .val (.int p4), .val (.int p5), .val (.int (0 : Int32)), .val (.int vi3), .val (.int vi5), .val (.int vi7), .val (.int vi9), .val (.int vi10), .val (.int vi11), .val (.int vi12), .val (.int vi3), .unset, .unset] []))
      refine own_go (fun t_ k => XS.iconst X8.here hx rfl (hb hby at_104) k) ?_
      show WP p e below _ (T8.setTop (mkF m 105 #[.val (.int p1), .val (.int p2), .val (.int p3), .val (.int p4), .val (.int p5), .val (.int (0 : Int32)), .val (.int vi3), .val (.int vi5), .val (.int vi7), .val (.int vi9), .val (.int vi10), .val (.int vi11), .val (.int vi12), .val (.int vi3), .unset, .unset] [(.int (1 : Int32))]))
      exact own_retZ X8 hx Bd.notSynchronized Bd.returns (hb hby at_105) (by decide) (show Q0 n0 _ _ _ from ⟨rfl, N8⟩) (by decide) (by decide)
    · refine own_go (fun t_ k => XS.icmpYes X8.here hx rfl (pc0 := 101) (pc' := 106) rfl (hb hby at_101) rfl (flt hc101_14).2.2.2 (by decide) (by decide) k) ?_
      have bv0 := own_v0 he3
      have bd1 := own_gap he5
      have bv1 := own_next (by omega) (by omega) bd1 he10
      have bd2 := own_gap he7
      have bv2 := own_next (by omega) (by omega) bd2 he11
      have bd3 := own_gap he9
      have bv3 := own_next (by omega) (by omega) bd3 he12
      have bl := hc101_14
      rw [Int32.lt_iff_toInt_lt, show (65535 : Int32).toInt = 65535 from rfl] at bl
      show WP p e below _ (T8.setTop (mkF m 106 #[.val (.int p1), .val (.int p2), .val (.int p3), .val (.int p4), .val (.int p5), .val (.int (0 : Int32)), .val (.int vi3), .val (.int vi5), .val (.int vi7), .val (.int vi9), .val (.int vi10), .val (.int vi11), .val (.int vi12), .val (.int vi3), .unset, .unset] []))
      obtain ⟨T15, h15, X15, e15, E15, A15, D15, -, st15⟩ := newO X8 hx hZ hown (hw _ (List.mem_of_getElem? (i := 6) rfl)) (hw _ (List.mem_of_getElem? (i := 7) rfl)) (hw _ (List.mem_of_getElem? (i := 8) rfl)) e8 (g := (mkF m 106 #[.val (.int p1), .val (.int p2), .val (.int p3), .val (.int p4), .val (.int p5), .val (.int (0 : Int32)), .val (.int vi3), .val (.int vi5), .val (.int vi7), .val (.int vi9), .val (.int vi10), .val (.int vi11), .val (.int vi12), .val (.int vi3), .unset, .unset] [])) rfl (hb hby at_106) (by decide) (by decide)
      obtain ⟨b15, g15⟩ : ∃ z, z = Array.size h0 := ⟨_, rfl⟩
      rw [← g15] at A15 D15 st15
      refine own_go st15 ?_
      have g_b15 : n0 ≤ b15 := Nat.le_trans (Nat.le_trans Z0 (Keep.refl h0 []).1) (Nat.le_of_eq g15.symm)
      have sz_b15 : h0.size ≤ b15 := Nat.le_trans (Keep.refl h0 []).1 (Nat.le_of_eq g15.symm)
      have ne_u_b15 : u ≠ b15 := Nat.ne_of_lt (Nat.lt_of_lt_of_le V_u.lt (Nat.le_of_eq g15.symm))
      have K15 : Keep h0 h15 [] := (Keep.refl h0 []).ext E15
      have F15_occupiedWords : Fld Z h15 b15 "com/example/cairn/cairn/ArrayContainer" "occupiedWords" "[J" .null := D15 (Or.inl (hw _ (List.mem_of_getElem? (i := 23) rfl))) (ty := (.array .long)) (by decide)
      have F15_values : Fld Z h15 b15 "com/example/cairn/cairn/ArrayContainer" "values" "[C" .null := D15 (Or.inl (hw _ (List.mem_of_getElem? (i := 26) rfl))) (ty := (.array .char)) (by decide)
      have F15_cardinality : Fld Z h15 b15 "com/example/cairn/cairn/ArrayContainer" "cardinality" "C" (.int (0 : Int32)) := D15 (Or.inl (hw _ (List.mem_of_getElem? (i := 28) rfl))) (ty := .char) (by decide)
      have F15_shared : Fld Z h15 b15 "com/example/cairn/cairn/Container" "shared" "Z" (.int (0 : Int32)) := D15 (Or.inl (hw _ (List.mem_of_getElem? (i := 41) rfl))) (ty := .boolean) (by decide)
      show WP p e below _ (T15.setTop (mkF m 109 #[.val (.int p1), .val (.int p2), .val (.int p3), .val (.int p4), .val (.int p5), .val (.int (0 : Int32)), .val (.int vi3), .val (.int vi5), .val (.int vi7), .val (.int vi9), .val (.int vi10), .val (.int vi11), .val (.int vi12), .val (.int vi3), .unset, .unset] [(.ref b15)]))
      refine own_go (fun t_ k => XS.dup X15.here hx rfl (hb hby at_109) rfl rfl k) ?_
      show WP p e below _ (T15.setTop (mkF m 110 #[.val (.int p1), .val (.int p2), .val (.int p3), .val (.int p4), .val (.int p5), .val (.int (0 : Int32)), .val (.int vi3), .val (.int vi5), .val (.int vi7), .val (.int vi9), .val (.int vi10), .val (.int vi11), .val (.int vi12), .val (.int vi3), .unset, .unset] [(.ref b15), (.ref b15)]))
      refine own_go (fun t_ k => XS.iload X15.here hx rfl (hb hby at_110) rfl k) ?_
      show WP p e below _ (T15.setTop (mkF m 112 #[.val (.int p1), .val (.int p2), .val (.int p3), .val (.int p4), .val (.int p5), .val (.int (0 : Int32)), .val (.int vi3), .val (.int vi5), .val (.int vi7), .val (.int vi9), .val (.int vi10), .val (.int vi11), .val (.int vi12), .val (.int vi3), .unset, .unset] [(.int vi3), (.ref b15), (.ref b15)]))
      refine own_go (fun t_ k => XS.i2c X15.here hx rfl (hb hby at_112) rfl k) ?_
      show WP p e below _ (T15.setTop (mkF m 113 #[.val (.int p1), .val (.int p2), .val (.int p3), .val (.int p4), .val (.int p5), .val (.int (0 : Int32)), .val (.int vi3), .val (.int vi5), .val (.int vi7), .val (.int vi9), .val (.int vi10), .val (.int vi11), .val (.int vi12), .val (.int vi3), .unset, .unset] [(.int (vi3.toUInt32.toUInt16.toUInt32.toInt32)), (.ref b15), (.ref b15)]))
      obtain ⟨_, _, ⟨T16, L16, k16, n16⟩, -, X16, ⟨Lc16, hQ16, l16, y16, z16⟩, st16⟩ := X15.specialBack hx (y := (⟨"com/example/cairn/cairn/ArrayContainer", "<init>", "(C)V"⟩ : MethodName)) rfl hown (mvT hZ (hw _ (List.mem_of_getElem? (i := 9) rfl))) (mvT hZ (hw _ (List.mem_of_getElem? (i := 10) rfl))) (mvT hZ (hw _ (List.mem_of_getElem? (i := 11) rfl))) (by decide) (backOf (W := 1) (rm2 l Z a0 hw [] b15 (vi3.toUInt32.toUInt16.toUInt32.toInt32) u ku h15 n0 (Nat.le_trans Z0 K15.1) A15 g_b15 F15_values F15_cardinality F15_occupiedWords F15_shared (S_u.ext E15) (V_u.ext E15) ne_u_b15) hZ (hw _ (List.mem_of_getElem? (i := 11) rfl)) (hw _ (List.mem_of_getElem? (i := 8) rfl)) (by decide) (by decide)) (g := (mkF m 113 #[.val (.int p1), .val (.int p2), .val (.int p3), .val (.int p4), .val (.int p5), .val (.int (0 : Int32)), .val (.int vi3), .val (.int vi5), .val (.int vi7), .val (.int vi9), .val (.int vi10), .val (.int vi11), .val (.int vi12), .val (.int vi3), .unset, .unset] [(.int (vi3.toUInt32.toUInt16.toUInt32.toInt32)), (.ref b15), (.ref b15)])) rfl (by rw [hml]; rfl) (Steps.refl _) (a := b15) (argsL := [(.int (vi3.toUInt32.toUInt16.toUInt32.toInt32))]) (rest := [(.ref b15)]) (lenOf pd_8 rfl) rfl (by show 2 * 0 + _ ≤ _; exact Nat.le_of_eq rfl) (hb hby at_113) (fun _ _ => ⟨rfl, e15, (by decide : 1 + 1 ≤ _), (by decide : 4 + 4 ≤ _)⟩)
      dsimp only [Pt.U, Pt.locs, Pt.cells, Pt.slots] at X16 l16 y16 z16 st16 hQ16
      subst l16 y16 z16
      obtain ⟨rfl, N16q, K16c, t16, kk16, gt16, szt16', P16⟩ := hQ16
      have N16 := Fr.app N8 N16q
      replace X16 : Stand p l e room_1 s m _ below meth c T16 _ 2 8 := X16
      refine own_go (fun t_ k => st16.trans k) ?_
      have K16 : Keep h0 T16.heap [] := K15.trans K16c (allS (Or.inr sz_b15) all0)
      have szt16 : h0.size ≤ t16 := Nat.le_trans K15.1 szt16'
      show WP p e below _ (T16.setTop (mkF m 116 #[.val (.int p1), .val (.int p2), .val (.int p3), .val (.int p4), .val (.int p5), .val (.int (0 : Int32)), .val (.int vi3), .val (.int vi5), .val (.int vi7), .val (.int vi9), .val (.int vi10), .val (.int vi11), .val (.int vi12), .val (.int vi3), .unset, .unset] [(.ref b15)]))
      refine own_go (fun t_ k => XS.astore X16.here hx rfl (hb hby at_116) rfl rfl (l' := #[.val (.int p1), .val (.int p2), .val (.int p3), .val (.int p4), .val (.int p5), .val (.int (0 : Int32)), .val (.int vi3), .val (.int vi5), .val (.int vi7), .val (.int vi9), .val (.int vi10), .val (.int vi11), .val (.int vi12), .val (.int vi3), .val (.ref b15), .unset]) rfl k) ?_
      show WP p e below _ (T16.setTop (mkF m 118 #[.val (.int p1), .val (.int p2), .val (.int p3), .val (.int p4), .val (.int p5), .val (.int (0 : Int32)), .val (.int vi3), .val (.int vi5), .val (.int vi7), .val (.int vi9), .val (.int vi10), .val (.int vi11), .val (.int vi12), .val (.int vi3), .val (.ref b15), .unset] []))
      refine own_go (fun t_ k => XS.iload X16.here hx rfl (hb hby at_118) rfl k) ?_
      show WP p e below _ (T16.setTop (mkF m 120 #[.val (.int p1), .val (.int p2), .val (.int p3), .val (.int p4), .val (.int p5), .val (.int (0 : Int32)), .val (.int vi3), .val (.int vi5), .val (.int vi7), .val (.int vi9), .val (.int vi10), .val (.int vi11), .val (.int vi12), .val (.int vi3), .val (.ref b15), .unset] [(.int (0 : Int32))]))
      have hc120_17 : ((0 : Int32) = (0 : Int32)) := by decide
      refine own_go (fun t_ k => XS.ifNo X16.here hx rfl (hb hby at_120) rfl ((if0 _ _).trans (teq hc120_17).2) k) ?_
      show WP p e below _ (T16.setTop (mkF m 123 #[.val (.int p1), .val (.int p2), .val (.int p3), .val (.int p4), .val (.int p5), .val (.int (0 : Int32)), .val (.int vi3), .val (.int vi5), .val (.int vi7), .val (.int vi9), .val (.int vi10), .val (.int vi11), .val (.int vi12), .val (.int vi3), .val (.ref b15), .unset] []))
      refine own_go (fun t_ k => XS.aload X16.here hx rfl (hb hby at_123) rfl rfl k) ?_
      show WP p e below _ (T16.setTop (mkF m 125 #[.val (.int p1), .val (.int p2), .val (.int p3), .val (.int p4), .val (.int p5), .val (.int (0 : Int32)), .val (.int vi3), .val (.int vi5), .val (.int vi7), .val (.int vi9), .val (.int vi10), .val (.int vi11), .val (.int vi12), .val (.int vi3), .val (.ref b15), .unset] [(.ref b15)]))
      refine own_go (fun t_ k => XS.iload X16.here hx rfl (hb hby at_125) rfl k) ?_
      show WP p e below _ (T16.setTop (mkF m 127 #[.val (.int p1), .val (.int p2), .val (.int p3), .val (.int p4), .val (.int p5), .val (.int (0 : Int32)), .val (.int vi3), .val (.int vi5), .val (.int vi7), .val (.int vi9), .val (.int vi10), .val (.int vi11), .val (.int vi12), .val (.int vi3), .val (.ref b15), .unset] [(.int vi3), (.ref b15)]))
      refine own_go (fun t_ k => XS.i2c X16.here hx rfl (hb hby at_127) rfl k) ?_
      show WP p e below _ (T16.setTop (mkF m 128 #[.val (.int p1), .val (.int p2), .val (.int p3), .val (.int p4), .val (.int p5), .val (.int (0 : Int32)), .val (.int vi3), .val (.int vi5), .val (.int vi7), .val (.int vi9), .val (.int vi10), .val (.int vi11), .val (.int vi12), .val (.int vi3), .val (.ref b15), .unset] [(.int (vi3.toUInt32.toUInt16.toUInt32.toInt32)), (.ref b15)]))
      obtain ⟨cq18, kq18, q18a, q18b, q18c⟩ := isOf (T := T16) hZ rfl P16.1
      obtain ⟨_, _, ⟨T18, L18, k18, n18⟩, -, X18, ⟨Lc18, hQ18, l18, y18, z18⟩, st18⟩ := X16.virtualBack hx (y := (⟨"com/example/cairn/cairn/ArrayContainer", "remove", "(C)Lcom/example/cairn/cairn/Container;"⟩ : MethodName)) (z := (⟨"com/example/cairn/cairn/ArrayContainer", "remove", "(C)Lcom/example/cairn/cairn/Container;"⟩ : MethodName)) hown (mvT hZ (hw _ (List.mem_of_getElem? (i := 47) rfl))) (mvT hZ (hw _ (List.mem_of_getElem? (i := 48) rfl))) (notFace_of_selects (args := #[]) (mvT hZ (hw _ (List.mem_of_getElem? (i := 50) rfl)))) (mvT hZ (hw _ (List.mem_of_getElem? (i := 50) rfl))) (mvT hZ (hw _ (List.mem_of_getElem? (i := 49) rfl))) (by decide) (backOf (W := 0) (rm_rm l Z a0 hw [] b15 (vi3.toUInt32.toUInt16.toUInt32.toInt32) t16 kk16 u ku ((vi3.toUInt32.toUInt16.toUInt32.toInt32).toUInt32.toUInt16.toUInt32.toInt32) (0 : Int32) (0 : Int32) (0 : Int32) T16.heap n0 P16 g_b15 gt16 (by rw [own_c vi3 (by omega) (by omega), own_c vi3 (by omega) (by omega), own_c vi3 (by omega) (by omega)])) hZ (hw _ (List.mem_of_getElem? (i := 51) rfl)) (hw _ (List.mem_of_getElem? (i := 8) rfl)) (by decide) (by decide)) q18a q18c (g := (mkF m 128 #[.val (.int p1), .val (.int p2), .val (.int p3), .val (.int p4), .val (.int p5), .val (.int (0 : Int32)), .val (.int vi3), .val (.int vi5), .val (.int vi7), .val (.int vi9), .val (.int vi10), .val (.int vi11), .val (.int vi12), .val (.int vi3), .val (.ref b15), .unset] [(.int (vi3.toUInt32.toUInt16.toUInt32.toInt32)), (.ref b15)])) rfl (by rw [hml]; rfl) (Steps.refl _) (argsL := [(.int (vi3.toUInt32.toUInt16.toUInt32.toInt32))]) (rest := []) (lenOf pd_9 rfl) rfl (by show 2 * 0 + _ ≤ _; exact Nat.le_of_eq rfl) (hb hby at_128) (fun _ _ => ⟨rfl, rfl, (by decide : 2 + 0 ≤ _), (by decide : 8 + 0 ≤ _)⟩)
      dsimp only [Pt.U, Pt.locs, Pt.cells, Pt.slots] at X18 l18 y18 z18 st18 hQ18
      subst l18 y18 z18
      obtain ⟨rfl, N18q, K18c, P18⟩ := hQ18
      have N18 := Fr.app N16 N18q
      replace X18 : Stand p l e room_1 s m _ below meth c T18 _ 2 8 := X18
      refine own_go (fun t_ k => st18.trans k) ?_
      have K18 : Keep h0 T18.heap [] := K16.trans K18c (allS (Or.inr sz_b15) (allS (Or.inr szt16) all0))
      show WP p e below _ (T18.setTop (mkF m 131 #[.val (.int p1), .val (.int p2), .val (.int p3), .val (.int p4), .val (.int p5), .val (.int (0 : Int32)), .val (.int vi3), .val (.int vi5), .val (.int vi7), .val (.int vi9), .val (.int vi10), .val (.int vi11), .val (.int vi12), .val (.int vi3), .val (.ref b15), .unset] [(.ref b15)]))
      refine own_go (fun t_ k => XS.pop X18.here hx rfl (hb hby at_131) rfl rfl k) ?_
      show WP p e below _ (T18.setTop (mkF m 132 #[.val (.int p1), .val (.int p2), .val (.int p3), .val (.int p4), .val (.int p5), .val (.int (0 : Int32)), .val (.int vi3), .val (.int vi5), .val (.int vi7), .val (.int vi9), .val (.int vi10), .val (.int vi11), .val (.int vi12), .val (.int vi3), .val (.ref b15), .unset] []))
      refine own_go (fun t_ k => XS.iload X18.here hx rfl (hb hby at_132) rfl k) ?_
      show WP p e below _ (T18.setTop (mkF m 134 #[.val (.int p1), .val (.int p2), .val (.int p3), .val (.int p4), .val (.int p5), .val (.int (0 : Int32)), .val (.int vi3), .val (.int vi5), .val (.int vi7), .val (.int vi9), .val (.int vi10), .val (.int vi11), .val (.int vi12), .val (.int vi3), .val (.ref b15), .unset] [(.int (0 : Int32))]))
      refine own_go (fun t_ k => XS.iconst X18.here hx rfl (hb hby at_134) k) ?_
      show WP p e below _ (T18.setTop (mkF m 135 #[.val (.int p1), .val (.int p2), .val (.int p3), .val (.int p4), .val (.int p5), .val (.int (0 : Int32)), .val (.int vi3), .val (.int vi5), .val (.int vi7), .val (.int vi9), .val (.int vi10), .val (.int vi11), .val (.int vi12), .val (.int vi3), .val (.ref b15), .unset] [(.int (2 : Int32)), (.int (0 : Int32))]))
      have hc135_19 : ((0 : Int32) < (2 : Int32)) := by decide
      refine own_go (fun t_ k => XS.icmpYes X18.here hx rfl (pc0 := 135) (pc' := 147) rfl (hb hby at_135) rfl (tlt hc135_19).1 (by decide) (by decide) k) ?_
      show WP p e below _ (T18.setTop (mkF m 147 #[.val (.int p1), .val (.int p2), .val (.int p3), .val (.int p4), .val (.int p5), .val (.int (0 : Int32)), .val (.int vi3), .val (.int vi5), .val (.int vi7), .val (.int vi9), .val (.int vi10), .val (.int vi11), .val (.int vi12), .val (.int vi3), .val (.ref b15), .unset] []))
      refine own_go (fun t_ k => XS.iload X18.here hx rfl (hb hby at_147) rfl k) ?_
      show WP p e below _ (T18.setTop (mkF m 149 #[.val (.int p1), .val (.int p2), .val (.int p3), .val (.int p4), .val (.int p5), .val (.int (0 : Int32)), .val (.int vi3), .val (.int vi5), .val (.int vi7), .val (.int vi9), .val (.int vi10), .val (.int vi11), .val (.int vi12), .val (.int vi3), .val (.ref b15), .unset] [(.int (0 : Int32))]))
      refine own_go (fun t_ k => XS.iconst X18.here hx rfl (hb hby at_149) k) ?_
      show WP p e below _ (T18.setTop (mkF m 150 #[.val (.int p1), .val (.int p2), .val (.int p3), .val (.int p4), .val (.int p5), .val (.int (0 : Int32)), .val (.int vi3), .val (.int vi5), .val (.int vi7), .val (.int vi9), .val (.int vi10), .val (.int vi11), .val (.int vi12), .val (.int vi3), .val (.ref b15), .unset] [(.int (3 : Int32)), (.int (0 : Int32))]))
      have hc150_20 : ((0 : Int32) < (3 : Int32)) := by decide
      refine own_go (fun t_ k => XS.icmpYes X18.here hx rfl (pc0 := 150) (pc' := 162) rfl (hb hby at_150) rfl (tlt hc150_20).1 (by decide) (by decide) k) ?_
      show WP p e below _ (T18.setTop (mkF m 162 #[.val (.int p1), .val (.int p2), .val (.int p3), .val (.int p4), .val (.int p5), .val (.int (0 : Int32)), .val (.int vi3), .val (.int vi5), .val (.int vi7), .val (.int vi9), .val (.int vi10), .val (.int vi11), .val (.int vi12), .val (.int vi3), .val (.ref b15), .unset] []))
      refine own_go (fun t_ k => XS.iload X18.here hx rfl (hb hby at_162) rfl k) ?_
      show WP p e below _ (T18.setTop (mkF m 164 #[.val (.int p1), .val (.int p2), .val (.int p3), .val (.int p4), .val (.int p5), .val (.int (0 : Int32)), .val (.int vi3), .val (.int vi5), .val (.int vi7), .val (.int vi9), .val (.int vi10), .val (.int vi11), .val (.int vi12), .val (.int vi3), .val (.ref b15), .unset] [(.int (0 : Int32))]))
      refine own_go (fun t_ k => XS.iconst X18.here hx rfl (hb hby at_164) k) ?_
      show WP p e below _ (T18.setTop (mkF m 165 #[.val (.int p1), .val (.int p2), .val (.int p3), .val (.int p4), .val (.int p5), .val (.int (0 : Int32)), .val (.int vi3), .val (.int vi5), .val (.int vi7), .val (.int vi9), .val (.int vi10), .val (.int vi11), .val (.int vi12), .val (.int vi3), .val (.ref b15), .unset] [(.int (4 : Int32)), (.int (0 : Int32))]))
      have hc165_21 : ((0 : Int32) < (4 : Int32)) := by decide
      refine own_go (fun t_ k => XS.icmpYes X18.here hx rfl (pc0 := 165) (pc' := 177) rfl (hb hby at_165) rfl (tlt hc165_21).1 (by decide) (by decide) k) ?_
      show WP p e below _ (T18.setTop (mkF m 177 #[.val (.int p1), .val (.int p2), .val (.int p3), .val (.int p4), .val (.int p5), .val (.int (0 : Int32)), .val (.int vi3), .val (.int vi5), .val (.int vi7), .val (.int vi9), .val (.int vi10), .val (.int vi11), .val (.int vi12), .val (.int vi3), .val (.ref b15), .unset] []))
      refine own_go (fun t_ k => XS.iload X18.here hx rfl (hb hby at_177) rfl k) ?_
      show WP p e below _ (T18.setTop (mkF m 179 #[.val (.int p1), .val (.int p2), .val (.int p3), .val (.int p4), .val (.int p5), .val (.int (0 : Int32)), .val (.int vi3), .val (.int vi5), .val (.int vi7), .val (.int vi9), .val (.int vi10), .val (.int vi11), .val (.int vi12), .val (.int vi3), .val (.ref b15), .unset] [(.int (0 : Int32))]))
      have hc179_22 : ((0 : Int32) = (0 : Int32)) := by decide
      refine own_go (fun t_ k => XS.ifNo X18.here hx rfl (hb hby at_179) rfl ((if0 _ _).trans (teq hc179_22).2) k) ?_
      show WP p e below _ (T18.setTop (mkF m 182 #[.val (.int p1), .val (.int p2), .val (.int p3), .val (.int p4), .val (.int p5), .val (.int (0 : Int32)), .val (.int vi3), .val (.int vi5), .val (.int vi7), .val (.int vi9), .val (.int vi10), .val (.int vi11), .val (.int vi12), .val (.int vi3), .val (.ref b15), .unset] []))
      refine own_go (fun t_ k => XS.iconst X18.here hx rfl (hb hby at_182) k) ?_
      show WP p e below _ (T18.setTop (mkF m 183 #[.val (.int p1), .val (.int p2), .val (.int p3), .val (.int p4), .val (.int p5), .val (.int (0 : Int32)), .val (.int vi3), .val (.int vi5), .val (.int vi7), .val (.int vi9), .val (.int vi10), .val (.int vi11), .val (.int vi12), .val (.int vi3), .val (.ref b15), .unset] [(.int (0 : Int32))]))
      refine own_go (fun t_ k => XS.goto X18.here hx rfl (pc0 := 183) (pc' := 187) rfl (hb hby at_183) (by decide) (by decide) k) ?_
      show WP p e below _ (T18.setTop (mkF m 187 #[.val (.int p1), .val (.int p2), .val (.int p3), .val (.int p4), .val (.int p5), .val (.int (0 : Int32)), .val (.int vi3), .val (.int vi5), .val (.int vi7), .val (.int vi9), .val (.int vi10), .val (.int vi11), .val (.int vi12), .val (.int vi3), .val (.ref b15), .unset] [(.int (0 : Int32))]))
      refine own_go (fun t_ k => XS.istore X18.here hx rfl (hb hby at_187) rfl (l' := #[.val (.int p1), .val (.int p2), .val (.int p3), .val (.int p4), .val (.int p5), .val (.int (0 : Int32)), .val (.int vi3), .val (.int vi5), .val (.int vi7), .val (.int vi9), .val (.int vi10), .val (.int vi11), .val (.int vi12), .val (.int vi3), .val (.ref b15), .val (.int (0 : Int32))]) rfl k) ?_
      show WP p e below _ (T18.setTop (mkF m 189 #[.val (.int p1), .val (.int p2), .val (.int p3), .val (.int p4), .val (.int p5), .val (.int (0 : Int32)), .val (.int vi3), .val (.int vi5), .val (.int vi7), .val (.int vi9), .val (.int vi10), .val (.int vi11), .val (.int vi12), .val (.int vi3), .val (.ref b15), .val (.int (0 : Int32))] []))
      refine own_go (fun t_ k => XS.iload X18.here hx rfl (hb hby at_189) rfl k) ?_
      show WP p e below _ (T18.setTop (mkF m 191 #[.val (.int p1), .val (.int p2), .val (.int p3), .val (.int p4), .val (.int p5), .val (.int (0 : Int32)), .val (.int vi3), .val (.int vi5), .val (.int vi7), .val (.int vi9), .val (.int vi10), .val (.int vi11), .val (.int vi12), .val (.int vi3), .val (.ref b15), .val (.int (0 : Int32))] [(.int (0 : Int32))]))
      refine own_go (fun t_ k => XS.iconst X18.here hx rfl (hb hby at_191) k) ?_
      show WP p e below _ (T18.setTop (mkF m 192 #[.val (.int p1), .val (.int p2), .val (.int p3), .val (.int p4), .val (.int p5), .val (.int (0 : Int32)), .val (.int vi3), .val (.int vi5), .val (.int vi7), .val (.int vi9), .val (.int vi10), .val (.int vi11), .val (.int vi12), .val (.int vi3), .val (.ref b15), .val (.int (0 : Int32))] [(.int (2 : Int32)), (.int (0 : Int32))]))
      have hc192_23 : ((0 : Int32) < (2 : Int32)) := by decide
      refine own_go (fun t_ k => XS.icmpYes X18.here hx rfl (pc0 := 192) (pc' := 203) rfl (hb hby at_192) rfl (tlt hc192_23).1 (by decide) (by decide) k) ?_
      show WP p e below _ (T18.setTop (mkF m 203 #[.val (.int p1), .val (.int p2), .val (.int p3), .val (.int p4), .val (.int p5), .val (.int (0 : Int32)), .val (.int vi3), .val (.int vi5), .val (.int vi7), .val (.int vi9), .val (.int vi10), .val (.int vi11), .val (.int vi12), .val (.int vi3), .val (.ref b15), .val (.int (0 : Int32))] []))
      refine own_go (fun t_ k => XS.iload X18.here hx rfl (hb hby at_203) rfl k) ?_
      show WP p e below _ (T18.setTop (mkF m 205 #[.val (.int p1), .val (.int p2), .val (.int p3), .val (.int p4), .val (.int p5), .val (.int (0 : Int32)), .val (.int vi3), .val (.int vi5), .val (.int vi7), .val (.int vi9), .val (.int vi10), .val (.int vi11), .val (.int vi12), .val (.int vi3), .val (.ref b15), .val (.int (0 : Int32))] [(.int (0 : Int32))]))
      refine own_go (fun t_ k => XS.iconst X18.here hx rfl (hb hby at_205) k) ?_
      show WP p e below _ (T18.setTop (mkF m 206 #[.val (.int p1), .val (.int p2), .val (.int p3), .val (.int p4), .val (.int p5), .val (.int (0 : Int32)), .val (.int vi3), .val (.int vi5), .val (.int vi7), .val (.int vi9), .val (.int vi10), .val (.int vi11), .val (.int vi12), .val (.int vi3), .val (.ref b15), .val (.int (0 : Int32))] [(.int (3 : Int32)), (.int (0 : Int32))]))
      have hc206_24 : ((0 : Int32) < (3 : Int32)) := by decide
      refine own_go (fun t_ k => XS.icmpYes X18.here hx rfl (pc0 := 206) (pc' := 217) rfl (hb hby at_206) rfl (tlt hc206_24).1 (by decide) (by decide) k) ?_
      show WP p e below _ (T18.setTop (mkF m 217 #[.val (.int p1), .val (.int p2), .val (.int p3), .val (.int p4), .val (.int p5), .val (.int (0 : Int32)), .val (.int vi3), .val (.int vi5), .val (.int vi7), .val (.int vi9), .val (.int vi10), .val (.int vi11), .val (.int vi12), .val (.int vi3), .val (.ref b15), .val (.int (0 : Int32))] []))
      refine own_go (fun t_ k => XS.iload X18.here hx rfl (hb hby at_217) rfl k) ?_
      show WP p e below _ (T18.setTop (mkF m 219 #[.val (.int p1), .val (.int p2), .val (.int p3), .val (.int p4), .val (.int p5), .val (.int (0 : Int32)), .val (.int vi3), .val (.int vi5), .val (.int vi7), .val (.int vi9), .val (.int vi10), .val (.int vi11), .val (.int vi12), .val (.int vi3), .val (.ref b15), .val (.int (0 : Int32))] [(.int (0 : Int32))]))
      refine own_go (fun t_ k => XS.iconst X18.here hx rfl (hb hby at_219) k) ?_
      show WP p e below _ (T18.setTop (mkF m 220 #[.val (.int p1), .val (.int p2), .val (.int p3), .val (.int p4), .val (.int p5), .val (.int (0 : Int32)), .val (.int vi3), .val (.int vi5), .val (.int vi7), .val (.int vi9), .val (.int vi10), .val (.int vi11), .val (.int vi12), .val (.int vi3), .val (.ref b15), .val (.int (0 : Int32))] [(.int (4 : Int32)), (.int (0 : Int32))]))
      have hc220_25 : ((0 : Int32) < (4 : Int32)) := by decide
      refine own_go (fun t_ k => XS.icmpYes X18.here hx rfl (pc0 := 220) (pc' := 231) rfl (hb hby at_220) rfl (tlt hc220_25).1 (by decide) (by decide) k) ?_
      show WP p e below _ (T18.setTop (mkF m 231 #[.val (.int p1), .val (.int p2), .val (.int p3), .val (.int p4), .val (.int p5), .val (.int (0 : Int32)), .val (.int vi3), .val (.int vi5), .val (.int vi7), .val (.int vi9), .val (.int vi10), .val (.int vi11), .val (.int vi12), .val (.int vi3), .val (.ref b15), .val (.int (0 : Int32))] []))
      refine own_go (fun t_ k => XS.aload X18.here hx rfl (hb hby at_231) rfl rfl k) ?_
      show WP p e below _ (T18.setTop (mkF m 233 #[.val (.int p1), .val (.int p2), .val (.int p3), .val (.int p4), .val (.int p5), .val (.int (0 : Int32)), .val (.int vi3), .val (.int vi5), .val (.int vi7), .val (.int vi9), .val (.int vi10), .val (.int vi11), .val (.int vi12), .val (.int vi3), .val (.ref b15), .val (.int (0 : Int32))] [(.ref b15)]))
      obtain ⟨cq26, kq26, q26a, q26b, q26c⟩ := isOf (T := T18) hZ rfl P18.1
      obtain ⟨_, _, ⟨T26, L26, k26, n26⟩, -, X26, ⟨Lc26, hQ26, l26, y26, z26⟩, st26⟩ := X18.virtualBack hx (y := (⟨"com/example/cairn/cairn/ArrayContainer", "runCount", "()I"⟩ : MethodName)) (z := (⟨"com/example/cairn/cairn/ArrayContainer", "runCount", "()I"⟩ : MethodName)) hown (mvT hZ (hw _ (List.mem_of_getElem? (i := 42) rfl))) (mvT hZ (hw _ (List.mem_of_getElem? (i := 43) rfl))) (notFace_of_selects (args := #[]) (mvT hZ (hw _ (List.mem_of_getElem? (i := 45) rfl)))) (mvT hZ (hw _ (List.mem_of_getElem? (i := 45) rfl))) (mvT hZ (hw _ (List.mem_of_getElem? (i := 44) rfl))) (by decide) (backOf (W := 0) (rm_rc0 l Z a0 hw [] b15 t16 kk16 u ku ((vi3.toUInt32.toUInt16.toUInt32.toInt32).toUInt32.toUInt16.toUInt32.toInt32) (0 : Int32) (0 : Int32) (0 : Int32) T18.heap n0 P18) hZ (hw _ (List.mem_of_getElem? (i := 46) rfl)) (hw _ (List.mem_of_getElem? (i := 8) rfl)) (by decide) (by decide)) q26a q26c (g := (mkF m 233 #[.val (.int p1), .val (.int p2), .val (.int p3), .val (.int p4), .val (.int p5), .val (.int (0 : Int32)), .val (.int vi3), .val (.int vi5), .val (.int vi7), .val (.int vi9), .val (.int vi10), .val (.int vi11), .val (.int vi12), .val (.int vi3), .val (.ref b15), .val (.int (0 : Int32))] [(.ref b15)])) rfl (by rw [hml]; rfl) (Steps.refl _) (argsL := []) (rest := []) (lenOf pd_10 rfl) rfl (by show 2 * 0 + _ ≤ _; exact Nat.le_of_eq rfl) (hb hby at_233) (fun _ _ => ⟨rfl, rfl, (by decide : 2 + 0 ≤ _), (by decide : 8 + 0 ≤ _)⟩)
      dsimp only [Pt.U, Pt.locs, Pt.cells, Pt.slots] at X26 l26 y26 z26 st26 hQ26
      subst l26 y26 z26
      obtain ⟨rfl, N26q, e26⟩ := hQ26
      have N26 := Fr.app N18 N26q
      replace X26 : Stand p l e room_1 s m _ below meth c T26 _ 2 8 := X26
      refine own_go (fun t_ k => st26.trans k) ?_
      show WP p e below _ (T26.setTop (mkF m 236 #[.val (.int p1), .val (.int p2), .val (.int p3), .val (.int p4), .val (.int p5), .val (.int (0 : Int32)), .val (.int vi3), .val (.int vi5), .val (.int vi7), .val (.int vi9), .val (.int vi10), .val (.int vi11), .val (.int vi12), .val (.int vi3), .val (.ref b15), .val (.int (0 : Int32))] [(.int (rc0 ((vi3.toUInt32.toUInt16.toUInt32.toInt32).toUInt32.toUInt16.toUInt32.toInt32) (0 : Int32) (0 : Int32) (0 : Int32)))]))
      generalize he27 : (rc0 ((vi3.toUInt32.toUInt16.toUInt32.toInt32).toUInt32.toUInt16.toUInt32.toInt32) (0 : Int32) (0 : Int32) (0 : Int32)) = vi27
      show WP p e below _ (T26.setTop (mkF m 236 #[.val (.int p1), .val (.int p2), .val (.int p3), .val (.int p4), .val (.int p5), .val (.int (0 : Int32)), .val (.int vi3), .val (.int vi5), .val (.int vi7), .val (.int vi9), .val (.int vi10), .val (.int vi11), .val (.int vi12), .val (.int vi3), .val (.ref b15), .val (.int (0 : Int32))] [(.int vi27)]))
      refine own_go (fun t_ k => XS.iload X26.here hx rfl (hb hby at_236) rfl k) ?_
      show WP p e below _ (T26.setTop (mkF m 238 #[.val (.int p1), .val (.int p2), .val (.int p3), .val (.int p4), .val (.int p5), .val (.int (0 : Int32)), .val (.int vi3), .val (.int vi5), .val (.int vi7), .val (.int vi9), .val (.int vi10), .val (.int vi11), .val (.int vi12), .val (.int vi3), .val (.ref b15), .val (.int (0 : Int32))] [(.int (0 : Int32)), (.int vi27)]))
      have J30 : ∀ (T30 : State) (ls30 : List Loc) (X30 : Stand p l e room_1 s m #[(.int p1), (.int p2), (.int p3), (.int p4), (.int p5)] below meth c T30 ls30 2 8) (N30 : Fr n0 ls30) (e30 : T30.heap = T18.heap) (z29_S0 : Int32) (hz29_S0 : z29_S0 = (if vi27 = (0 : Int32) then (1 : Int32) else (0 : Int32))), WP p e below (GG (Q0 n0) s room_1.cells room_1.slots) (T30.setTop (mkF m 246 #[.val (.int p1), .val (.int p2), .val (.int p3), .val (.int p4), .val (.int p5), .val (.int (0 : Int32)), .val (.int vi3), .val (.int vi5), .val (.int vi7), .val (.int vi9), .val (.int vi10), .val (.int vi11), .val (.int vi12), .val (.int vi3), .val (.ref b15), .val (.int (0 : Int32))] [(.int z29_S0)])) := by
        intro T30 ls30 X30 N30 e30 z29_S0 hz29_S0
        show WP p e below _ (T30.setTop (mkF m 246 #[.val (.int p1), .val (.int p2), .val (.int p3), .val (.int p4), .val (.int p5), .val (.int (0 : Int32)), .val (.int vi3), .val (.int vi5), .val (.int vi7), .val (.int vi9), .val (.int vi10), .val (.int vi11), .val (.int vi12), .val (.int vi3), .val (.ref b15), .val (.int (0 : Int32))] [(.int z29_S0)]))
        exact own_retZ X30 hx Bd.notSynchronized Bd.returns (hb hby at_246) (by rw [hz29_S0]; (repeat' split); all_goals first | exact Or.inl rfl | exact Or.inr rfl) (show Q0 n0 _ _ _ from ⟨congrArg (fun z => some (Value.int z)) (own_law_1 (p1 := p1) (p2 := p2) (p3 := p3) (p4 := p4) (p5 := p5) he1 he3 he5 he7 he9 he10 he11 he12 he27 hz29_S0 hc101_14), N30⟩) (by decide) (by decide)
      by_cases hc238_28 : vi27 = (0 : Int32)
      · refine own_go (fun t_ k => XS.icmpNo X26.here hx rfl (hb hby at_238) rfl (teq hc238_28).2 k) ?_
        show WP p e below _ (T26.setTop (mkF m 241 #[.val (.int p1), .val (.int p2), .val (.int p3), .val (.int p4), .val (.int p5), .val (.int (0 : Int32)), .val (.int vi3), .val (.int vi5), .val (.int vi7), .val (.int vi9), .val (.int vi10), .val (.int vi11), .val (.int vi12), .val (.int vi3), .val (.ref b15), .val (.int (0 : Int32))] []))
        refine own_go (fun t_ k => XS.iconst X26.here hx rfl (hb hby at_241) k) ?_
        show WP p e below _ (T26.setTop (mkF m 242 #[.val (.int p1), .val (.int p2), .val (.int p3), .val (.int p4), .val (.int p5), .val (.int (0 : Int32)), .val (.int vi3), .val (.int vi5), .val (.int vi7), .val (.int vi9), .val (.int vi10), .val (.int vi11), .val (.int vi12), .val (.int vi3), .val (.ref b15), .val (.int (0 : Int32))] [(.int (1 : Int32))]))
        refine own_go (fun t_ k => XS.goto X26.here hx rfl (pc0 := 242) (pc' := 246) rfl (hb hby at_242) (by decide) (by decide) k) ?_
        show WP p e below _ (T26.setTop (mkF m 246 #[.val (.int p1), .val (.int p2), .val (.int p3), .val (.int p4), .val (.int p5), .val (.int (0 : Int32)), .val (.int vi3), .val (.int vi5), .val (.int vi7), .val (.int vi9), .val (.int vi10), .val (.int vi11), .val (.int vi12), .val (.int vi3), .val (.ref b15), .val (.int (0 : Int32))] [(.int (1 : Int32))]))
        exact J30 T26 _ X26 N26 e26 _ (by rw [if_pos hc238_28])
      · refine own_go (fun t_ k => XS.icmpYes X26.here hx rfl (pc0 := 238) (pc' := 245) rfl (hb hby at_238) rfl (feq hc238_28).2 (by decide) (by decide) k) ?_
        show WP p e below _ (T26.setTop (mkF m 245 #[.val (.int p1), .val (.int p2), .val (.int p3), .val (.int p4), .val (.int p5), .val (.int (0 : Int32)), .val (.int vi3), .val (.int vi5), .val (.int vi7), .val (.int vi9), .val (.int vi10), .val (.int vi11), .val (.int vi12), .val (.int vi3), .val (.ref b15), .val (.int (0 : Int32))] []))
        refine own_go (fun t_ k => XS.iconst X26.here hx rfl (hb hby at_245) k) ?_
        show WP p e below _ (T26.setTop (mkF m 246 #[.val (.int p1), .val (.int p2), .val (.int p3), .val (.int p4), .val (.int p5), .val (.int (0 : Int32)), .val (.int vi3), .val (.int vi5), .val (.int vi7), .val (.int vi9), .val (.int vi10), .val (.int vi11), .val (.int vi12), .val (.int vi3), .val (.ref b15), .val (.int (0 : Int32))] [(.int (0 : Int32))]))
        exact J30 T26 _ X26 N26 e26 _ (by rw [if_neg hc238_28])
  · subst hs2
    show WP p e below _ (s₁.setTop (mkF m 8 #[.val (.int p1), .val (.int p2), .val (.int p3), .val (.int p4), .val (.int p5), .val (.int (1 : Int32)), .unset, .unset, .unset, .unset, .unset, .unset, .unset, .unset, .unset, .unset] []))
    refine own_go (fun t_ k => XS.iloadN X0.here hx rfl (hb hby at_8) rfl k) ?_
    show WP p e below _ (s₁.setTop (mkF m 9 #[.val (.int p1), .val (.int p2), .val (.int p3), .val (.int p4), .val (.int p5), .val (.int (1 : Int32)), .unset, .unset, .unset, .unset, .unset, .unset, .unset, .unset, .unset, .unset] [(.int p1)]))
    refine own_go (fun t_ k => X0.ldcInt hx hown (mvT hZ (hw _ (List.mem_of_getElem? (i := 1) rfl))) (g := (mkF m 9 #[.val (.int p1), .val (.int p2), .val (.int p3), .val (.int p4), .val (.int p5), .val (.int (1 : Int32)), .unset, .unset, .unset, .unset, .unset, .unset, .unset, .unset, .unset, .unset] [(.int p1)])) rfl (hb hby at_9) _ k) ?_
    show WP p e below _ (s₁.setTop (mkF m 11 #[.val (.int p1), .val (.int p2), .val (.int p3), .val (.int p4), .val (.int p5), .val (.int (1 : Int32)), .unset, .unset, .unset, .unset, .unset, .unset, .unset, .unset, .unset, .unset] [(.int (65535 : Int32)), (.int p1)]))
    refine own_go (fun t_ k => XS.iand X0.here hx rfl (hb hby at_11) rfl k) ?_
    show WP p e below _ (s₁.setTop (mkF m 12 #[.val (.int p1), .val (.int p2), .val (.int p3), .val (.int p4), .val (.int p5), .val (.int (1 : Int32)), .unset, .unset, .unset, .unset, .unset, .unset, .unset, .unset, .unset, .unset] [(.int (p1 &&& (65535 : Int32)))]))
    refine own_go (fun t_ k => XS.istore X0.here hx rfl (hb hby at_12) rfl (l' := #[.val (.int p1), .val (.int p2), .val (.int p3), .val (.int p4), .val (.int p5), .val (.int (1 : Int32)), .val (.int (p1 &&& (65535 : Int32))), .unset, .unset, .unset, .unset, .unset, .unset, .unset, .unset, .unset]) rfl k) ?_
    show WP p e below _ (s₁.setTop (mkF m 14 #[.val (.int p1), .val (.int p2), .val (.int p3), .val (.int p4), .val (.int p5), .val (.int (1 : Int32)), .val (.int (p1 &&& (65535 : Int32))), .unset, .unset, .unset, .unset, .unset, .unset, .unset, .unset, .unset] []))
    generalize he31 : (p1 &&& (65535 : Int32)) = vi31
    show WP p e below _ (s₁.setTop (mkF m 14 #[.val (.int p1), .val (.int p2), .val (.int p3), .val (.int p4), .val (.int p5), .val (.int (1 : Int32)), .val (.int vi31), .unset, .unset, .unset, .unset, .unset, .unset, .unset, .unset, .unset] []))
    refine own_go (fun t_ k => XS.iloadN X0.here hx rfl (hb hby at_14) rfl k) ?_
    show WP p e below _ (s₁.setTop (mkF m 15 #[.val (.int p1), .val (.int p2), .val (.int p3), .val (.int p4), .val (.int p5), .val (.int (1 : Int32)), .val (.int vi31), .unset, .unset, .unset, .unset, .unset, .unset, .unset, .unset, .unset] [(.int p3)]))
    obtain ⟨_, _, ⟨T32, L32, k32, n32⟩, -, X32, ⟨Lc32, hQ32, l32, y32, z32⟩, st32⟩ := Jvm.LawKit.callS X0 hx (y := (⟨"com/example/cairn/cairn/ArrayContainerRunCountPinLaw", "gap", "(I)I"⟩ : MethodName)) hown (mvT hZ (hw _ (List.mem_of_getElem? (i := 2) rfl))) (mvT hZ (hw _ (List.mem_of_getElem? (i := 3) rfl))) (mvT hZ (hw _ (List.mem_of_getElem? (i := 4) rfl))) (mvT hZ (hw _ (List.mem_of_getElem? (i := 5) rfl))) (by decide) (backOf (W := 0) (rm1 l Z a0 hw [] p3 h0 n0) hZ (hw _ (List.mem_of_getElem? (i := 5) rfl)) (hw _ (List.mem_of_getElem? (i := 4) rfl)) (by decide) (by decide)) (g := (mkF m 15 #[.val (.int p1), .val (.int p2), .val (.int p3), .val (.int p4), .val (.int p5), .val (.int (1 : Int32)), .val (.int vi31), .unset, .unset, .unset, .unset, .unset, .unset, .unset, .unset, .unset] [(.int p3)])) rfl (by rw [hml]; rfl) (argsL := [(.int p3)]) (rest := []) (lenOf pd_7 rfl) rfl (by show 2 * 0 + _ ≤ _; exact Nat.le_of_eq rfl) (hb hby at_15) (fun _ _ => ⟨rfl, e0, (by decide : 0 + 0 ≤ _), (by decide : 0 + 0 ≤ _)⟩)
    dsimp only [Pt.U, Pt.locs, Pt.cells, Pt.slots] at X32 l32 y32 z32 st32 hQ32
    subst l32 y32 z32
    obtain ⟨rfl, N32q, e32⟩ := hQ32
    have N32 := Fr.app N0 N32q
    replace X32 : Stand p l e room_1 s m _ below meth c T32 _ 0 0 := X32
    refine own_go st32 ?_
    show WP p e below _ (T32.setTop (mkF m 18 #[.val (.int p1), .val (.int p2), .val (.int p3), .val (.int p4), .val (.int p5), .val (.int (1 : Int32)), .val (.int vi31), .unset, .unset, .unset, .unset, .unset, .unset, .unset, .unset, .unset] [(.int (f1 p3))]))
    generalize he33 : (f1 p3) = vi33
    show WP p e below _ (T32.setTop (mkF m 18 #[.val (.int p1), .val (.int p2), .val (.int p3), .val (.int p4), .val (.int p5), .val (.int (1 : Int32)), .val (.int vi31), .unset, .unset, .unset, .unset, .unset, .unset, .unset, .unset, .unset] [(.int vi33)]))
    refine own_go (fun t_ k => XS.istore X32.here hx rfl (hb hby at_18) rfl (l' := #[.val (.int p1), .val (.int p2), .val (.int p3), .val (.int p4), .val (.int p5), .val (.int (1 : Int32)), .val (.int vi31), .val (.int vi33), .unset, .unset, .unset, .unset, .unset, .unset, .unset, .unset]) rfl k) ?_
    show WP p e below _ (T32.setTop (mkF m 20 #[.val (.int p1), .val (.int p2), .val (.int p3), .val (.int p4), .val (.int p5), .val (.int (1 : Int32)), .val (.int vi31), .val (.int vi33), .unset, .unset, .unset, .unset, .unset, .unset, .unset, .unset] []))
    refine own_go (fun t_ k => XS.iloadN X32.here hx rfl (hb hby at_20) rfl k) ?_
    show WP p e below _ (T32.setTop (mkF m 21 #[.val (.int p1), .val (.int p2), .val (.int p3), .val (.int p4), .val (.int p5), .val (.int (1 : Int32)), .val (.int vi31), .val (.int vi33), .unset, .unset, .unset, .unset, .unset, .unset, .unset, .unset] [(.int p4)]))
    obtain ⟨_, _, ⟨T34, L34, k34, n34⟩, -, X34, ⟨Lc34, hQ34, l34, y34, z34⟩, st34⟩ := Jvm.LawKit.callS X32 hx (y := (⟨"com/example/cairn/cairn/ArrayContainerRunCountPinLaw", "gap", "(I)I"⟩ : MethodName)) hown (mvT hZ (hw _ (List.mem_of_getElem? (i := 2) rfl))) (mvT hZ (hw _ (List.mem_of_getElem? (i := 3) rfl))) (mvT hZ (hw _ (List.mem_of_getElem? (i := 4) rfl))) (mvT hZ (hw _ (List.mem_of_getElem? (i := 5) rfl))) (by decide) (backOf (W := 0) (rm1 l Z a0 hw [] p4 h0 n0) hZ (hw _ (List.mem_of_getElem? (i := 5) rfl)) (hw _ (List.mem_of_getElem? (i := 4) rfl)) (by decide) (by decide)) (g := (mkF m 21 #[.val (.int p1), .val (.int p2), .val (.int p3), .val (.int p4), .val (.int p5), .val (.int (1 : Int32)), .val (.int vi31), .val (.int vi33), .unset, .unset, .unset, .unset, .unset, .unset, .unset, .unset] [(.int p4)])) rfl (by rw [hml]; rfl) (argsL := [(.int p4)]) (rest := []) (lenOf pd_7 rfl) rfl (by show 2 * 0 + _ ≤ _; exact Nat.le_of_eq rfl) (hb hby at_21) (fun _ _ => ⟨rfl, e32, (by decide : 0 + 0 ≤ _), (by decide : 0 + 0 ≤ _)⟩)
    dsimp only [Pt.U, Pt.locs, Pt.cells, Pt.slots] at X34 l34 y34 z34 st34 hQ34
    subst l34 y34 z34
    obtain ⟨rfl, N34q, e34⟩ := hQ34
    have N34 := Fr.app N32 N34q
    replace X34 : Stand p l e room_1 s m _ below meth c T34 _ 0 0 := X34
    refine own_go st34 ?_
    show WP p e below _ (T34.setTop (mkF m 24 #[.val (.int p1), .val (.int p2), .val (.int p3), .val (.int p4), .val (.int p5), .val (.int (1 : Int32)), .val (.int vi31), .val (.int vi33), .unset, .unset, .unset, .unset, .unset, .unset, .unset, .unset] [(.int (f1 p4))]))
    generalize he35 : (f1 p4) = vi35
    show WP p e below _ (T34.setTop (mkF m 24 #[.val (.int p1), .val (.int p2), .val (.int p3), .val (.int p4), .val (.int p5), .val (.int (1 : Int32)), .val (.int vi31), .val (.int vi33), .unset, .unset, .unset, .unset, .unset, .unset, .unset, .unset] [(.int vi35)]))
    refine own_go (fun t_ k => XS.istore X34.here hx rfl (hb hby at_24) rfl (l' := #[.val (.int p1), .val (.int p2), .val (.int p3), .val (.int p4), .val (.int p5), .val (.int (1 : Int32)), .val (.int vi31), .val (.int vi33), .val (.int vi35), .unset, .unset, .unset, .unset, .unset, .unset, .unset]) rfl k) ?_
    show WP p e below _ (T34.setTop (mkF m 26 #[.val (.int p1), .val (.int p2), .val (.int p3), .val (.int p4), .val (.int p5), .val (.int (1 : Int32)), .val (.int vi31), .val (.int vi33), .val (.int vi35), .unset, .unset, .unset, .unset, .unset, .unset, .unset] []))
    refine own_go (fun t_ k => XS.iload X34.here hx rfl (hb hby at_26) rfl k) ?_
    show WP p e below _ (T34.setTop (mkF m 28 #[.val (.int p1), .val (.int p2), .val (.int p3), .val (.int p4), .val (.int p5), .val (.int (1 : Int32)), .val (.int vi31), .val (.int vi33), .val (.int vi35), .unset, .unset, .unset, .unset, .unset, .unset, .unset] [(.int p5)]))
    obtain ⟨_, _, ⟨T36, L36, k36, n36⟩, -, X36, ⟨Lc36, hQ36, l36, y36, z36⟩, st36⟩ := Jvm.LawKit.callS X34 hx (y := (⟨"com/example/cairn/cairn/ArrayContainerRunCountPinLaw", "gap", "(I)I"⟩ : MethodName)) hown (mvT hZ (hw _ (List.mem_of_getElem? (i := 2) rfl))) (mvT hZ (hw _ (List.mem_of_getElem? (i := 3) rfl))) (mvT hZ (hw _ (List.mem_of_getElem? (i := 4) rfl))) (mvT hZ (hw _ (List.mem_of_getElem? (i := 5) rfl))) (by decide) (backOf (W := 0) (rm1 l Z a0 hw [] p5 h0 n0) hZ (hw _ (List.mem_of_getElem? (i := 5) rfl)) (hw _ (List.mem_of_getElem? (i := 4) rfl)) (by decide) (by decide)) (g := (mkF m 28 #[.val (.int p1), .val (.int p2), .val (.int p3), .val (.int p4), .val (.int p5), .val (.int (1 : Int32)), .val (.int vi31), .val (.int vi33), .val (.int vi35), .unset, .unset, .unset, .unset, .unset, .unset, .unset] [(.int p5)])) rfl (by rw [hml]; rfl) (argsL := [(.int p5)]) (rest := []) (lenOf pd_7 rfl) rfl (by show 2 * 0 + _ ≤ _; exact Nat.le_of_eq rfl) (hb hby at_28) (fun _ _ => ⟨rfl, e34, (by decide : 0 + 0 ≤ _), (by decide : 0 + 0 ≤ _)⟩)
    dsimp only [Pt.U, Pt.locs, Pt.cells, Pt.slots] at X36 l36 y36 z36 st36 hQ36
    subst l36 y36 z36
    obtain ⟨rfl, N36q, e36⟩ := hQ36
    have N36 := Fr.app N34 N36q
    replace X36 : Stand p l e room_1 s m _ below meth c T36 _ 0 0 := X36
    refine own_go st36 ?_
    show WP p e below _ (T36.setTop (mkF m 31 #[.val (.int p1), .val (.int p2), .val (.int p3), .val (.int p4), .val (.int p5), .val (.int (1 : Int32)), .val (.int vi31), .val (.int vi33), .val (.int vi35), .unset, .unset, .unset, .unset, .unset, .unset, .unset] [(.int (f1 p5))]))
    generalize he37 : (f1 p5) = vi37
    show WP p e below _ (T36.setTop (mkF m 31 #[.val (.int p1), .val (.int p2), .val (.int p3), .val (.int p4), .val (.int p5), .val (.int (1 : Int32)), .val (.int vi31), .val (.int vi33), .val (.int vi35), .unset, .unset, .unset, .unset, .unset, .unset, .unset] [(.int vi37)]))
    refine own_go (fun t_ k => XS.istore X36.here hx rfl (hb hby at_31) rfl (l' := #[.val (.int p1), .val (.int p2), .val (.int p3), .val (.int p4), .val (.int p5), .val (.int (1 : Int32)), .val (.int vi31), .val (.int vi33), .val (.int vi35), .val (.int vi37), .unset, .unset, .unset, .unset, .unset, .unset]) rfl k) ?_
    show WP p e below _ (T36.setTop (mkF m 33 #[.val (.int p1), .val (.int p2), .val (.int p3), .val (.int p4), .val (.int p5), .val (.int (1 : Int32)), .val (.int vi31), .val (.int vi33), .val (.int vi35), .val (.int vi37), .unset, .unset, .unset, .unset, .unset, .unset] []))
    refine own_go (fun t_ k => XS.iload X36.here hx rfl (hb hby at_33) rfl k) ?_
    show WP p e below _ (T36.setTop (mkF m 35 #[.val (.int p1), .val (.int p2), .val (.int p3), .val (.int p4), .val (.int p5), .val (.int (1 : Int32)), .val (.int vi31), .val (.int vi33), .val (.int vi35), .val (.int vi37), .unset, .unset, .unset, .unset, .unset, .unset] [(.int vi31)]))
    refine own_go (fun t_ k => XS.iconst X36.here hx rfl (hb hby at_35) k) ?_
    show WP p e below _ (T36.setTop (mkF m 36 #[.val (.int p1), .val (.int p2), .val (.int p3), .val (.int p4), .val (.int p5), .val (.int (1 : Int32)), .val (.int vi31), .val (.int vi33), .val (.int vi35), .val (.int vi37), .unset, .unset, .unset, .unset, .unset, .unset] [(.int (1 : Int32)), (.int vi31)]))
    refine own_go (fun t_ k => XS.iadd X36.here hx rfl (hb hby at_36) rfl k) ?_
    show WP p e below _ (T36.setTop (mkF m 37 #[.val (.int p1), .val (.int p2), .val (.int p3), .val (.int p4), .val (.int p5), .val (.int (1 : Int32)), .val (.int vi31), .val (.int vi33), .val (.int vi35), .val (.int vi37), .unset, .unset, .unset, .unset, .unset, .unset] [(.int (vi31 + (1 : Int32)))]))
    refine own_go (fun t_ k => XS.iload X36.here hx rfl (hb hby at_37) rfl k) ?_
    show WP p e below _ (T36.setTop (mkF m 39 #[.val (.int p1), .val (.int p2), .val (.int p3), .val (.int p4), .val (.int p5), .val (.int (1 : Int32)), .val (.int vi31), .val (.int vi33), .val (.int vi35), .val (.int vi37), .unset, .unset, .unset, .unset, .unset, .unset] [(.int vi33), (.int (vi31 + (1 : Int32)))]))
    refine own_go (fun t_ k => XS.iadd X36.here hx rfl (hb hby at_39) rfl k) ?_
    show WP p e below _ (T36.setTop (mkF m 40 #[.val (.int p1), .val (.int p2), .val (.int p3), .val (.int p4), .val (.int p5), .val (.int (1 : Int32)), .val (.int vi31), .val (.int vi33), .val (.int vi35), .val (.int vi37), .unset, .unset, .unset, .unset, .unset, .unset] [(.int ((vi31 + (1 : Int32)) + vi33))]))
    refine own_go (fun t_ k => XS.istore X36.here hx rfl (hb hby at_40) rfl (l' := #[.val (.int p1), .val (.int p2), .val (.int p3), .val (.int p4), .val (.int p5), .val (.int (1 : Int32)), .val (.int vi31), .val (.int vi33), .val (.int vi35), .val (.int vi37), .val (.int ((vi31 + (1 : Int32)) + vi33)), .unset, .unset, .unset, .unset, .unset]) rfl k) ?_
    show WP p e below _ (T36.setTop (mkF m 42 #[.val (.int p1), .val (.int p2), .val (.int p3), .val (.int p4), .val (.int p5), .val (.int (1 : Int32)), .val (.int vi31), .val (.int vi33), .val (.int vi35), .val (.int vi37), .val (.int ((vi31 + (1 : Int32)) + vi33)), .unset, .unset, .unset, .unset, .unset] []))
    generalize he38 : ((vi31 + (1 : Int32)) + vi33) = vi38
    show WP p e below _ (T36.setTop (mkF m 42 #[.val (.int p1), .val (.int p2), .val (.int p3), .val (.int p4), .val (.int p5), .val (.int (1 : Int32)), .val (.int vi31), .val (.int vi33), .val (.int vi35), .val (.int vi37), .val (.int vi38), .unset, .unset, .unset, .unset, .unset] []))
    refine own_go (fun t_ k => XS.iload X36.here hx rfl (hb hby at_42) rfl k) ?_
    show WP p e below _ (T36.setTop (mkF m 44 #[.val (.int p1), .val (.int p2), .val (.int p3), .val (.int p4), .val (.int p5), .val (.int (1 : Int32)), .val (.int vi31), .val (.int vi33), .val (.int vi35), .val (.int vi37), .val (.int vi38), .unset, .unset, .unset, .unset, .unset] [(.int vi38)]))
    refine own_go (fun t_ k => XS.iconst X36.here hx rfl (hb hby at_44) k) ?_
    show WP p e below _ (T36.setTop (mkF m 45 #[.val (.int p1), .val (.int p2), .val (.int p3), .val (.int p4), .val (.int p5), .val (.int (1 : Int32)), .val (.int vi31), .val (.int vi33), .val (.int vi35), .val (.int vi37), .val (.int vi38), .unset, .unset, .unset, .unset, .unset] [(.int (1 : Int32)), (.int vi38)]))
    refine own_go (fun t_ k => XS.iadd X36.here hx rfl (hb hby at_45) rfl k) ?_
    show WP p e below _ (T36.setTop (mkF m 46 #[.val (.int p1), .val (.int p2), .val (.int p3), .val (.int p4), .val (.int p5), .val (.int (1 : Int32)), .val (.int vi31), .val (.int vi33), .val (.int vi35), .val (.int vi37), .val (.int vi38), .unset, .unset, .unset, .unset, .unset] [(.int (vi38 + (1 : Int32)))]))
    refine own_go (fun t_ k => XS.iload X36.here hx rfl (hb hby at_46) rfl k) ?_
    show WP p e below _ (T36.setTop (mkF m 48 #[.val (.int p1), .val (.int p2), .val (.int p3), .val (.int p4), .val (.int p5), .val (.int (1 : Int32)), .val (.int vi31), .val (.int vi33), .val (.int vi35), .val (.int vi37), .val (.int vi38), .unset, .unset, .unset, .unset, .unset] [(.int vi35), (.int (vi38 + (1 : Int32)))]))
    refine own_go (fun t_ k => XS.iadd X36.here hx rfl (hb hby at_48) rfl k) ?_
    show WP p e below _ (T36.setTop (mkF m 49 #[.val (.int p1), .val (.int p2), .val (.int p3), .val (.int p4), .val (.int p5), .val (.int (1 : Int32)), .val (.int vi31), .val (.int vi33), .val (.int vi35), .val (.int vi37), .val (.int vi38), .unset, .unset, .unset, .unset, .unset] [(.int ((vi38 + (1 : Int32)) + vi35))]))
    refine own_go (fun t_ k => XS.istore X36.here hx rfl (hb hby at_49) rfl (l' := #[.val (.int p1), .val (.int p2), .val (.int p3), .val (.int p4), .val (.int p5), .val (.int (1 : Int32)), .val (.int vi31), .val (.int vi33), .val (.int vi35), .val (.int vi37), .val (.int vi38), .val (.int ((vi38 + (1 : Int32)) + vi35)), .unset, .unset, .unset, .unset]) rfl k) ?_
    show WP p e below _ (T36.setTop (mkF m 51 #[.val (.int p1), .val (.int p2), .val (.int p3), .val (.int p4), .val (.int p5), .val (.int (1 : Int32)), .val (.int vi31), .val (.int vi33), .val (.int vi35), .val (.int vi37), .val (.int vi38), .val (.int ((vi38 + (1 : Int32)) + vi35)), .unset, .unset, .unset, .unset] []))
    generalize he39 : ((vi38 + (1 : Int32)) + vi35) = vi39
    show WP p e below _ (T36.setTop (mkF m 51 #[.val (.int p1), .val (.int p2), .val (.int p3), .val (.int p4), .val (.int p5), .val (.int (1 : Int32)), .val (.int vi31), .val (.int vi33), .val (.int vi35), .val (.int vi37), .val (.int vi38), .val (.int vi39), .unset, .unset, .unset, .unset] []))
    refine own_go (fun t_ k => XS.iload X36.here hx rfl (hb hby at_51) rfl k) ?_
    show WP p e below _ (T36.setTop (mkF m 53 #[.val (.int p1), .val (.int p2), .val (.int p3), .val (.int p4), .val (.int p5), .val (.int (1 : Int32)), .val (.int vi31), .val (.int vi33), .val (.int vi35), .val (.int vi37), .val (.int vi38), .val (.int vi39), .unset, .unset, .unset, .unset] [(.int vi39)]))
    refine own_go (fun t_ k => XS.iconst X36.here hx rfl (hb hby at_53) k) ?_
    show WP p e below _ (T36.setTop (mkF m 54 #[.val (.int p1), .val (.int p2), .val (.int p3), .val (.int p4), .val (.int p5), .val (.int (1 : Int32)), .val (.int vi31), .val (.int vi33), .val (.int vi35), .val (.int vi37), .val (.int vi38), .val (.int vi39), .unset, .unset, .unset, .unset] [(.int (1 : Int32)), (.int vi39)]))
    refine own_go (fun t_ k => XS.iadd X36.here hx rfl (hb hby at_54) rfl k) ?_
    show WP p e below _ (T36.setTop (mkF m 55 #[.val (.int p1), .val (.int p2), .val (.int p3), .val (.int p4), .val (.int p5), .val (.int (1 : Int32)), .val (.int vi31), .val (.int vi33), .val (.int vi35), .val (.int vi37), .val (.int vi38), .val (.int vi39), .unset, .unset, .unset, .unset] [(.int (vi39 + (1 : Int32)))]))
    refine own_go (fun t_ k => XS.iload X36.here hx rfl (hb hby at_55) rfl k) ?_
    show WP p e below _ (T36.setTop (mkF m 57 #[.val (.int p1), .val (.int p2), .val (.int p3), .val (.int p4), .val (.int p5), .val (.int (1 : Int32)), .val (.int vi31), .val (.int vi33), .val (.int vi35), .val (.int vi37), .val (.int vi38), .val (.int vi39), .unset, .unset, .unset, .unset] [(.int vi37), (.int (vi39 + (1 : Int32)))]))
    refine own_go (fun t_ k => XS.iadd X36.here hx rfl (hb hby at_57) rfl k) ?_
    show WP p e below _ (T36.setTop (mkF m 58 #[.val (.int p1), .val (.int p2), .val (.int p3), .val (.int p4), .val (.int p5), .val (.int (1 : Int32)), .val (.int vi31), .val (.int vi33), .val (.int vi35), .val (.int vi37), .val (.int vi38), .val (.int vi39), .unset, .unset, .unset, .unset] [(.int ((vi39 + (1 : Int32)) + vi37))]))
    refine own_go (fun t_ k => XS.istore X36.here hx rfl (hb hby at_58) rfl (l' := #[.val (.int p1), .val (.int p2), .val (.int p3), .val (.int p4), .val (.int p5), .val (.int (1 : Int32)), .val (.int vi31), .val (.int vi33), .val (.int vi35), .val (.int vi37), .val (.int vi38), .val (.int vi39), .val (.int ((vi39 + (1 : Int32)) + vi37)), .unset, .unset, .unset]) rfl k) ?_
    show WP p e below _ (T36.setTop (mkF m 60 #[.val (.int p1), .val (.int p2), .val (.int p3), .val (.int p4), .val (.int p5), .val (.int (1 : Int32)), .val (.int vi31), .val (.int vi33), .val (.int vi35), .val (.int vi37), .val (.int vi38), .val (.int vi39), .val (.int ((vi39 + (1 : Int32)) + vi37)), .unset, .unset, .unset] []))
    generalize he40 : ((vi39 + (1 : Int32)) + vi37) = vi40
    show WP p e below _ (T36.setTop (mkF m 60 #[.val (.int p1), .val (.int p2), .val (.int p3), .val (.int p4), .val (.int p5), .val (.int (1 : Int32)), .val (.int vi31), .val (.int vi33), .val (.int vi35), .val (.int vi37), .val (.int vi38), .val (.int vi39), .val (.int vi40), .unset, .unset, .unset] []))
    refine own_go (fun t_ k => XS.iload X36.here hx rfl (hb hby at_60) rfl k) ?_
    show WP p e below _ (T36.setTop (mkF m 62 #[.val (.int p1), .val (.int p2), .val (.int p3), .val (.int p4), .val (.int p5), .val (.int (1 : Int32)), .val (.int vi31), .val (.int vi33), .val (.int vi35), .val (.int vi37), .val (.int vi38), .val (.int vi39), .val (.int vi40), .unset, .unset, .unset] [(.int (1 : Int32))]))
    refine own_go (fun t_ k => XS.iconst X36.here hx rfl (hb hby at_62) k) ?_
    show WP p e below _ (T36.setTop (mkF m 63 #[.val (.int p1), .val (.int p2), .val (.int p3), .val (.int p4), .val (.int p5), .val (.int (1 : Int32)), .val (.int vi31), .val (.int vi33), .val (.int vi35), .val (.int vi37), .val (.int vi38), .val (.int vi39), .val (.int vi40), .unset, .unset, .unset] [(.int (1 : Int32)), (.int (1 : Int32))]))
    have hc63_41 : ¬ ((1 : Int32) < (1 : Int32)) := by decide
    refine own_go (fun t_ k => XS.icmpNo X36.here hx rfl (hb hby at_63) rfl (flt hc63_41).2.2.1 k) ?_
    show WP p e below _ (T36.setTop (mkF m 66 #[.val (.int p1), .val (.int p2), .val (.int p3), .val (.int p4), .val (.int p5), .val (.int (1 : Int32)), .val (.int vi31), .val (.int vi33), .val (.int vi35), .val (.int vi37), .val (.int vi38), .val (.int vi39), .val (.int vi40), .unset, .unset, .unset] []))
    refine own_go (fun t_ k => XS.iload X36.here hx rfl (hb hby at_66) rfl k) ?_
    show WP p e below _ (T36.setTop (mkF m 68 #[.val (.int p1), .val (.int p2), .val (.int p3), .val (.int p4), .val (.int p5), .val (.int (1 : Int32)), .val (.int vi31), .val (.int vi33), .val (.int vi35), .val (.int vi37), .val (.int vi38), .val (.int vi39), .val (.int vi40), .unset, .unset, .unset] [(.int vi31)]))
    refine own_go (fun t_ k => XS.goto X36.here hx rfl (pc0 := 68) (pc' := 95) rfl (hb hby at_68) (by decide) (by decide) k) ?_
    show WP p e below _ (T36.setTop (mkF m 95 #[.val (.int p1), .val (.int p2), .val (.int p3), .val (.int p4), .val (.int p5), .val (.int (1 : Int32)), .val (.int vi31), .val (.int vi33), .val (.int vi35), .val (.int vi37), .val (.int vi38), .val (.int vi39), .val (.int vi40), .unset, .unset, .unset] [(.int vi31)]))
    refine own_go (fun t_ k => XS.istore X36.here hx rfl (hb hby at_95) rfl (l' := #[.val (.int p1), .val (.int p2), .val (.int p3), .val (.int p4), .val (.int p5), .val (.int (1 : Int32)), .val (.int vi31), .val (.int vi33), .val (.int vi35), .val (.int vi37), .val (.int vi38), .val (.int vi39), .val (.int vi40), .val (.int vi31), .unset, .unset]) rfl k) ?_
    show WP p e below _ (T36.setTop (mkF m 97 #[.val (.int p1), .val (.int p2), .val (.int p3), .val (.int p4), .val (.int p5), .val (.int (1 : Int32)), .val (.int vi31), .val (.int vi33), .val (.int vi35), .val (.int vi37), .val (.int vi38), .val (.int vi39), .val (.int vi40), .val (.int vi31), .unset, .unset] []))
    refine own_go (fun t_ k => XS.iload X36.here hx rfl (hb hby at_97) rfl k) ?_
    show WP p e below _ (T36.setTop (mkF m 99 #[.val (.int p1), .val (.int p2), .val (.int p3), .val (.int p4), .val (.int p5), .val (.int (1 : Int32)), .val (.int vi31), .val (.int vi33), .val (.int vi35), .val (.int vi37), .val (.int vi38), .val (.int vi39), .val (.int vi40), .val (.int vi31), .unset, .unset] [(.int vi31)]))
    refine own_go (fun t_ k => X36.ldcInt hx hown (mvT hZ (hw _ (List.mem_of_getElem? (i := 1) rfl))) (g := (mkF m 99 #[.val (.int p1), .val (.int p2), .val (.int p3), .val (.int p4), .val (.int p5), .val (.int (1 : Int32)), .val (.int vi31), .val (.int vi33), .val (.int vi35), .val (.int vi37), .val (.int vi38), .val (.int vi39), .val (.int vi40), .val (.int vi31), .unset, .unset] [(.int vi31)])) rfl (hb hby at_99) _ k) ?_
    show WP p e below _ (T36.setTop (mkF m 101 #[.val (.int p1), .val (.int p2), .val (.int p3), .val (.int p4), .val (.int p5), .val (.int (1 : Int32)), .val (.int vi31), .val (.int vi33), .val (.int vi35), .val (.int vi37), .val (.int vi38), .val (.int vi39), .val (.int vi40), .val (.int vi31), .unset, .unset] [(.int (65535 : Int32)), (.int vi31)]))
    by_cases hc101_42 : (65535 : Int32) < vi31
    · refine own_go (fun t_ k => XS.icmpNo X36.here hx rfl (hb hby at_101) rfl (tlt hc101_42).2.2.2 k) ?_
      show WP p e below _ (T36.setTop (mkF m 104 #[.val (.int p1), .val (.int p2), .val (.int p3), .val (.int p4), .val (.int p5), .val (.int (1 : Int32)), .val (.int vi31), .val (.int vi33), .val (.int vi35), .val (.int vi37), .val (.int vi38), .val (.int vi39), .val (.int vi40), .val (.int vi31), .unset, .unset] []))
      refine own_go (fun t_ k => XS.iconst X36.here hx rfl (hb hby at_104) k) ?_
      show WP p e below _ (T36.setTop (mkF m 105 #[.val (.int p1), .val (.int p2), .val (.int p3), .val (.int p4), .val (.int p5), .val (.int (1 : Int32)), .val (.int vi31), .val (.int vi33), .val (.int vi35), .val (.int vi37), .val (.int vi38), .val (.int vi39), .val (.int vi40), .val (.int vi31), .unset, .unset] [(.int (1 : Int32))]))
      exact own_retZ X36 hx Bd.notSynchronized Bd.returns (hb hby at_105) (by decide) (show Q0 n0 _ _ _ from ⟨rfl, N36⟩) (by decide) (by decide)
    · refine own_go (fun t_ k => XS.icmpYes X36.here hx rfl (pc0 := 101) (pc' := 106) rfl (hb hby at_101) rfl (flt hc101_42).2.2.2 (by decide) (by decide) k) ?_
      have bv0 := own_v0 he31
      have bd1 := own_gap he33
      have bv1 := own_next (by omega) (by omega) bd1 he38
      have bd2 := own_gap he35
      have bv2 := own_next (by omega) (by omega) bd2 he39
      have bd3 := own_gap he37
      have bv3 := own_next (by omega) (by omega) bd3 he40
      have bl := hc101_42
      rw [Int32.lt_iff_toInt_lt, show (65535 : Int32).toInt = 65535 from rfl] at bl
      show WP p e below _ (T36.setTop (mkF m 106 #[.val (.int p1), .val (.int p2), .val (.int p3), .val (.int p4), .val (.int p5), .val (.int (1 : Int32)), .val (.int vi31), .val (.int vi33), .val (.int vi35), .val (.int vi37), .val (.int vi38), .val (.int vi39), .val (.int vi40), .val (.int vi31), .unset, .unset] []))
      obtain ⟨T43, h43, X43, e43, E43, A43, D43, -, st43⟩ := newO X36 hx hZ hown (hw _ (List.mem_of_getElem? (i := 6) rfl)) (hw _ (List.mem_of_getElem? (i := 7) rfl)) (hw _ (List.mem_of_getElem? (i := 8) rfl)) e36 (g := (mkF m 106 #[.val (.int p1), .val (.int p2), .val (.int p3), .val (.int p4), .val (.int p5), .val (.int (1 : Int32)), .val (.int vi31), .val (.int vi33), .val (.int vi35), .val (.int vi37), .val (.int vi38), .val (.int vi39), .val (.int vi40), .val (.int vi31), .unset, .unset] [])) rfl (hb hby at_106) (by decide) (by decide)
      obtain ⟨b43, g43⟩ : ∃ z, z = Array.size h0 := ⟨_, rfl⟩
      rw [← g43] at A43 D43 st43
      refine own_go st43 ?_
      have g_b43 : n0 ≤ b43 := Nat.le_trans (Nat.le_trans Z0 (Keep.refl h0 []).1) (Nat.le_of_eq g43.symm)
      have sz_b43 : h0.size ≤ b43 := Nat.le_trans (Keep.refl h0 []).1 (Nat.le_of_eq g43.symm)
      have ne_u_b43 : u ≠ b43 := Nat.ne_of_lt (Nat.lt_of_lt_of_le V_u.lt (Nat.le_of_eq g43.symm))
      have K43 : Keep h0 h43 [] := (Keep.refl h0 []).ext E43
      have F43_occupiedWords : Fld Z h43 b43 "com/example/cairn/cairn/ArrayContainer" "occupiedWords" "[J" .null := D43 (Or.inl (hw _ (List.mem_of_getElem? (i := 23) rfl))) (ty := (.array .long)) (by decide)
      have F43_values : Fld Z h43 b43 "com/example/cairn/cairn/ArrayContainer" "values" "[C" .null := D43 (Or.inl (hw _ (List.mem_of_getElem? (i := 26) rfl))) (ty := (.array .char)) (by decide)
      have F43_cardinality : Fld Z h43 b43 "com/example/cairn/cairn/ArrayContainer" "cardinality" "C" (.int (0 : Int32)) := D43 (Or.inl (hw _ (List.mem_of_getElem? (i := 28) rfl))) (ty := .char) (by decide)
      have F43_shared : Fld Z h43 b43 "com/example/cairn/cairn/Container" "shared" "Z" (.int (0 : Int32)) := D43 (Or.inl (hw _ (List.mem_of_getElem? (i := 41) rfl))) (ty := .boolean) (by decide)
      show WP p e below _ (T43.setTop (mkF m 109 #[.val (.int p1), .val (.int p2), .val (.int p3), .val (.int p4), .val (.int p5), .val (.int (1 : Int32)), .val (.int vi31), .val (.int vi33), .val (.int vi35), .val (.int vi37), .val (.int vi38), .val (.int vi39), .val (.int vi40), .val (.int vi31), .unset, .unset] [(.ref b43)]))
      refine own_go (fun t_ k => XS.dup X43.here hx rfl (hb hby at_109) rfl rfl k) ?_
      show WP p e below _ (T43.setTop (mkF m 110 #[.val (.int p1), .val (.int p2), .val (.int p3), .val (.int p4), .val (.int p5), .val (.int (1 : Int32)), .val (.int vi31), .val (.int vi33), .val (.int vi35), .val (.int vi37), .val (.int vi38), .val (.int vi39), .val (.int vi40), .val (.int vi31), .unset, .unset] [(.ref b43), (.ref b43)]))
      refine own_go (fun t_ k => XS.iload X43.here hx rfl (hb hby at_110) rfl k) ?_
      show WP p e below _ (T43.setTop (mkF m 112 #[.val (.int p1), .val (.int p2), .val (.int p3), .val (.int p4), .val (.int p5), .val (.int (1 : Int32)), .val (.int vi31), .val (.int vi33), .val (.int vi35), .val (.int vi37), .val (.int vi38), .val (.int vi39), .val (.int vi40), .val (.int vi31), .unset, .unset] [(.int vi31), (.ref b43), (.ref b43)]))
      refine own_go (fun t_ k => XS.i2c X43.here hx rfl (hb hby at_112) rfl k) ?_
      show WP p e below _ (T43.setTop (mkF m 113 #[.val (.int p1), .val (.int p2), .val (.int p3), .val (.int p4), .val (.int p5), .val (.int (1 : Int32)), .val (.int vi31), .val (.int vi33), .val (.int vi35), .val (.int vi37), .val (.int vi38), .val (.int vi39), .val (.int vi40), .val (.int vi31), .unset, .unset] [(.int (vi31.toUInt32.toUInt16.toUInt32.toInt32)), (.ref b43), (.ref b43)]))
      obtain ⟨_, _, ⟨T44, L44, k44, n44⟩, -, X44, ⟨Lc44, hQ44, l44, y44, z44⟩, st44⟩ := X43.specialBack hx (y := (⟨"com/example/cairn/cairn/ArrayContainer", "<init>", "(C)V"⟩ : MethodName)) rfl hown (mvT hZ (hw _ (List.mem_of_getElem? (i := 9) rfl))) (mvT hZ (hw _ (List.mem_of_getElem? (i := 10) rfl))) (mvT hZ (hw _ (List.mem_of_getElem? (i := 11) rfl))) (by decide) (backOf (W := 1) (rm2 l Z a0 hw [] b43 (vi31.toUInt32.toUInt16.toUInt32.toInt32) u ku h43 n0 (Nat.le_trans Z0 K43.1) A43 g_b43 F43_values F43_cardinality F43_occupiedWords F43_shared (S_u.ext E43) (V_u.ext E43) ne_u_b43) hZ (hw _ (List.mem_of_getElem? (i := 11) rfl)) (hw _ (List.mem_of_getElem? (i := 8) rfl)) (by decide) (by decide)) (g := (mkF m 113 #[.val (.int p1), .val (.int p2), .val (.int p3), .val (.int p4), .val (.int p5), .val (.int (1 : Int32)), .val (.int vi31), .val (.int vi33), .val (.int vi35), .val (.int vi37), .val (.int vi38), .val (.int vi39), .val (.int vi40), .val (.int vi31), .unset, .unset] [(.int (vi31.toUInt32.toUInt16.toUInt32.toInt32)), (.ref b43), (.ref b43)])) rfl (by rw [hml]; rfl) (Steps.refl _) (a := b43) (argsL := [(.int (vi31.toUInt32.toUInt16.toUInt32.toInt32))]) (rest := [(.ref b43)]) (lenOf pd_8 rfl) rfl (by show 2 * 0 + _ ≤ _; exact Nat.le_of_eq rfl) (hb hby at_113) (fun _ _ => ⟨rfl, e43, (by decide : 1 + 1 ≤ _), (by decide : 4 + 4 ≤ _)⟩)
      dsimp only [Pt.U, Pt.locs, Pt.cells, Pt.slots] at X44 l44 y44 z44 st44 hQ44
      subst l44 y44 z44
      obtain ⟨rfl, N44q, K44c, t44, kk44, gt44, szt44', P44⟩ := hQ44
      have N44 := Fr.app N36 N44q
      replace X44 : Stand p l e room_1 s m _ below meth c T44 _ 2 8 := X44
      refine own_go (fun t_ k => st44.trans k) ?_
      have K44 : Keep h0 T44.heap [] := K43.trans K44c (allS (Or.inr sz_b43) all0)
      have szt44 : h0.size ≤ t44 := Nat.le_trans K43.1 szt44'
      show WP p e below _ (T44.setTop (mkF m 116 #[.val (.int p1), .val (.int p2), .val (.int p3), .val (.int p4), .val (.int p5), .val (.int (1 : Int32)), .val (.int vi31), .val (.int vi33), .val (.int vi35), .val (.int vi37), .val (.int vi38), .val (.int vi39), .val (.int vi40), .val (.int vi31), .unset, .unset] [(.ref b43)]))
      refine own_go (fun t_ k => XS.astore X44.here hx rfl (hb hby at_116) rfl rfl (l' := #[.val (.int p1), .val (.int p2), .val (.int p3), .val (.int p4), .val (.int p5), .val (.int (1 : Int32)), .val (.int vi31), .val (.int vi33), .val (.int vi35), .val (.int vi37), .val (.int vi38), .val (.int vi39), .val (.int vi40), .val (.int vi31), .val (.ref b43), .unset]) rfl k) ?_
      show WP p e below _ (T44.setTop (mkF m 118 #[.val (.int p1), .val (.int p2), .val (.int p3), .val (.int p4), .val (.int p5), .val (.int (1 : Int32)), .val (.int vi31), .val (.int vi33), .val (.int vi35), .val (.int vi37), .val (.int vi38), .val (.int vi39), .val (.int vi40), .val (.int vi31), .val (.ref b43), .unset] []))
      refine own_go (fun t_ k => XS.iload X44.here hx rfl (hb hby at_118) rfl k) ?_
      show WP p e below _ (T44.setTop (mkF m 120 #[.val (.int p1), .val (.int p2), .val (.int p3), .val (.int p4), .val (.int p5), .val (.int (1 : Int32)), .val (.int vi31), .val (.int vi33), .val (.int vi35), .val (.int vi37), .val (.int vi38), .val (.int vi39), .val (.int vi40), .val (.int vi31), .val (.ref b43), .unset] [(.int (1 : Int32))]))
      have hc120_45 : ¬ ((1 : Int32) = (0 : Int32)) := by decide
      refine own_go (fun t_ k => XS.ifYes X44.here hx rfl (pc0 := 120) (pc' := 132) rfl (hb hby at_120) rfl ((if0 _ _).trans (feq hc120_45).2) (by decide) (by decide) k) ?_
      show WP p e below _ (T44.setTop (mkF m 132 #[.val (.int p1), .val (.int p2), .val (.int p3), .val (.int p4), .val (.int p5), .val (.int (1 : Int32)), .val (.int vi31), .val (.int vi33), .val (.int vi35), .val (.int vi37), .val (.int vi38), .val (.int vi39), .val (.int vi40), .val (.int vi31), .val (.ref b43), .unset] []))
      refine own_go (fun t_ k => XS.iload X44.here hx rfl (hb hby at_132) rfl k) ?_
      show WP p e below _ (T44.setTop (mkF m 134 #[.val (.int p1), .val (.int p2), .val (.int p3), .val (.int p4), .val (.int p5), .val (.int (1 : Int32)), .val (.int vi31), .val (.int vi33), .val (.int vi35), .val (.int vi37), .val (.int vi38), .val (.int vi39), .val (.int vi40), .val (.int vi31), .val (.ref b43), .unset] [(.int (1 : Int32))]))
      refine own_go (fun t_ k => XS.iconst X44.here hx rfl (hb hby at_134) k) ?_
      show WP p e below _ (T44.setTop (mkF m 135 #[.val (.int p1), .val (.int p2), .val (.int p3), .val (.int p4), .val (.int p5), .val (.int (1 : Int32)), .val (.int vi31), .val (.int vi33), .val (.int vi35), .val (.int vi37), .val (.int vi38), .val (.int vi39), .val (.int vi40), .val (.int vi31), .val (.ref b43), .unset] [(.int (2 : Int32)), (.int (1 : Int32))]))
      have hc135_46 : ((1 : Int32) < (2 : Int32)) := by decide
      refine own_go (fun t_ k => XS.icmpYes X44.here hx rfl (pc0 := 135) (pc' := 147) rfl (hb hby at_135) rfl (tlt hc135_46).1 (by decide) (by decide) k) ?_
      show WP p e below _ (T44.setTop (mkF m 147 #[.val (.int p1), .val (.int p2), .val (.int p3), .val (.int p4), .val (.int p5), .val (.int (1 : Int32)), .val (.int vi31), .val (.int vi33), .val (.int vi35), .val (.int vi37), .val (.int vi38), .val (.int vi39), .val (.int vi40), .val (.int vi31), .val (.ref b43), .unset] []))
      refine own_go (fun t_ k => XS.iload X44.here hx rfl (hb hby at_147) rfl k) ?_
      show WP p e below _ (T44.setTop (mkF m 149 #[.val (.int p1), .val (.int p2), .val (.int p3), .val (.int p4), .val (.int p5), .val (.int (1 : Int32)), .val (.int vi31), .val (.int vi33), .val (.int vi35), .val (.int vi37), .val (.int vi38), .val (.int vi39), .val (.int vi40), .val (.int vi31), .val (.ref b43), .unset] [(.int (1 : Int32))]))
      refine own_go (fun t_ k => XS.iconst X44.here hx rfl (hb hby at_149) k) ?_
      show WP p e below _ (T44.setTop (mkF m 150 #[.val (.int p1), .val (.int p2), .val (.int p3), .val (.int p4), .val (.int p5), .val (.int (1 : Int32)), .val (.int vi31), .val (.int vi33), .val (.int vi35), .val (.int vi37), .val (.int vi38), .val (.int vi39), .val (.int vi40), .val (.int vi31), .val (.ref b43), .unset] [(.int (3 : Int32)), (.int (1 : Int32))]))
      have hc150_47 : ((1 : Int32) < (3 : Int32)) := by decide
      refine own_go (fun t_ k => XS.icmpYes X44.here hx rfl (pc0 := 150) (pc' := 162) rfl (hb hby at_150) rfl (tlt hc150_47).1 (by decide) (by decide) k) ?_
      show WP p e below _ (T44.setTop (mkF m 162 #[.val (.int p1), .val (.int p2), .val (.int p3), .val (.int p4), .val (.int p5), .val (.int (1 : Int32)), .val (.int vi31), .val (.int vi33), .val (.int vi35), .val (.int vi37), .val (.int vi38), .val (.int vi39), .val (.int vi40), .val (.int vi31), .val (.ref b43), .unset] []))
      refine own_go (fun t_ k => XS.iload X44.here hx rfl (hb hby at_162) rfl k) ?_
      show WP p e below _ (T44.setTop (mkF m 164 #[.val (.int p1), .val (.int p2), .val (.int p3), .val (.int p4), .val (.int p5), .val (.int (1 : Int32)), .val (.int vi31), .val (.int vi33), .val (.int vi35), .val (.int vi37), .val (.int vi38), .val (.int vi39), .val (.int vi40), .val (.int vi31), .val (.ref b43), .unset] [(.int (1 : Int32))]))
      refine own_go (fun t_ k => XS.iconst X44.here hx rfl (hb hby at_164) k) ?_
      show WP p e below _ (T44.setTop (mkF m 165 #[.val (.int p1), .val (.int p2), .val (.int p3), .val (.int p4), .val (.int p5), .val (.int (1 : Int32)), .val (.int vi31), .val (.int vi33), .val (.int vi35), .val (.int vi37), .val (.int vi38), .val (.int vi39), .val (.int vi40), .val (.int vi31), .val (.ref b43), .unset] [(.int (4 : Int32)), (.int (1 : Int32))]))
      have hc165_48 : ((1 : Int32) < (4 : Int32)) := by decide
      refine own_go (fun t_ k => XS.icmpYes X44.here hx rfl (pc0 := 165) (pc' := 177) rfl (hb hby at_165) rfl (tlt hc165_48).1 (by decide) (by decide) k) ?_
      show WP p e below _ (T44.setTop (mkF m 177 #[.val (.int p1), .val (.int p2), .val (.int p3), .val (.int p4), .val (.int p5), .val (.int (1 : Int32)), .val (.int vi31), .val (.int vi33), .val (.int vi35), .val (.int vi37), .val (.int vi38), .val (.int vi39), .val (.int vi40), .val (.int vi31), .val (.ref b43), .unset] []))
      refine own_go (fun t_ k => XS.iload X44.here hx rfl (hb hby at_177) rfl k) ?_
      show WP p e below _ (T44.setTop (mkF m 179 #[.val (.int p1), .val (.int p2), .val (.int p3), .val (.int p4), .val (.int p5), .val (.int (1 : Int32)), .val (.int vi31), .val (.int vi33), .val (.int vi35), .val (.int vi37), .val (.int vi38), .val (.int vi39), .val (.int vi40), .val (.int vi31), .val (.ref b43), .unset] [(.int (1 : Int32))]))
      have hc179_49 : ¬ ((1 : Int32) = (0 : Int32)) := by decide
      refine own_go (fun t_ k => XS.ifYes X44.here hx rfl (pc0 := 179) (pc' := 186) rfl (hb hby at_179) rfl ((if0 _ _).trans (feq hc179_49).2) (by decide) (by decide) k) ?_
      show WP p e below _ (T44.setTop (mkF m 186 #[.val (.int p1), .val (.int p2), .val (.int p3), .val (.int p4), .val (.int p5), .val (.int (1 : Int32)), .val (.int vi31), .val (.int vi33), .val (.int vi35), .val (.int vi37), .val (.int vi38), .val (.int vi39), .val (.int vi40), .val (.int vi31), .val (.ref b43), .unset] []))
      refine own_go (fun t_ k => XS.iconst X44.here hx rfl (hb hby at_186) k) ?_
      show WP p e below _ (T44.setTop (mkF m 187 #[.val (.int p1), .val (.int p2), .val (.int p3), .val (.int p4), .val (.int p5), .val (.int (1 : Int32)), .val (.int vi31), .val (.int vi33), .val (.int vi35), .val (.int vi37), .val (.int vi38), .val (.int vi39), .val (.int vi40), .val (.int vi31), .val (.ref b43), .unset] [(.int (1 : Int32))]))
      refine own_go (fun t_ k => XS.istore X44.here hx rfl (hb hby at_187) rfl (l' := #[.val (.int p1), .val (.int p2), .val (.int p3), .val (.int p4), .val (.int p5), .val (.int (1 : Int32)), .val (.int vi31), .val (.int vi33), .val (.int vi35), .val (.int vi37), .val (.int vi38), .val (.int vi39), .val (.int vi40), .val (.int vi31), .val (.ref b43), .val (.int (1 : Int32))]) rfl k) ?_
      show WP p e below _ (T44.setTop (mkF m 189 #[.val (.int p1), .val (.int p2), .val (.int p3), .val (.int p4), .val (.int p5), .val (.int (1 : Int32)), .val (.int vi31), .val (.int vi33), .val (.int vi35), .val (.int vi37), .val (.int vi38), .val (.int vi39), .val (.int vi40), .val (.int vi31), .val (.ref b43), .val (.int (1 : Int32))] []))
      refine own_go (fun t_ k => XS.iload X44.here hx rfl (hb hby at_189) rfl k) ?_
      show WP p e below _ (T44.setTop (mkF m 191 #[.val (.int p1), .val (.int p2), .val (.int p3), .val (.int p4), .val (.int p5), .val (.int (1 : Int32)), .val (.int vi31), .val (.int vi33), .val (.int vi35), .val (.int vi37), .val (.int vi38), .val (.int vi39), .val (.int vi40), .val (.int vi31), .val (.ref b43), .val (.int (1 : Int32))] [(.int (1 : Int32))]))
      refine own_go (fun t_ k => XS.iconst X44.here hx rfl (hb hby at_191) k) ?_
      show WP p e below _ (T44.setTop (mkF m 192 #[.val (.int p1), .val (.int p2), .val (.int p3), .val (.int p4), .val (.int p5), .val (.int (1 : Int32)), .val (.int vi31), .val (.int vi33), .val (.int vi35), .val (.int vi37), .val (.int vi38), .val (.int vi39), .val (.int vi40), .val (.int vi31), .val (.ref b43), .val (.int (1 : Int32))] [(.int (2 : Int32)), (.int (1 : Int32))]))
      have hc192_50 : ((1 : Int32) < (2 : Int32)) := by decide
      refine own_go (fun t_ k => XS.icmpYes X44.here hx rfl (pc0 := 192) (pc' := 203) rfl (hb hby at_192) rfl (tlt hc192_50).1 (by decide) (by decide) k) ?_
      show WP p e below _ (T44.setTop (mkF m 203 #[.val (.int p1), .val (.int p2), .val (.int p3), .val (.int p4), .val (.int p5), .val (.int (1 : Int32)), .val (.int vi31), .val (.int vi33), .val (.int vi35), .val (.int vi37), .val (.int vi38), .val (.int vi39), .val (.int vi40), .val (.int vi31), .val (.ref b43), .val (.int (1 : Int32))] []))
      refine own_go (fun t_ k => XS.iload X44.here hx rfl (hb hby at_203) rfl k) ?_
      show WP p e below _ (T44.setTop (mkF m 205 #[.val (.int p1), .val (.int p2), .val (.int p3), .val (.int p4), .val (.int p5), .val (.int (1 : Int32)), .val (.int vi31), .val (.int vi33), .val (.int vi35), .val (.int vi37), .val (.int vi38), .val (.int vi39), .val (.int vi40), .val (.int vi31), .val (.ref b43), .val (.int (1 : Int32))] [(.int (1 : Int32))]))
      refine own_go (fun t_ k => XS.iconst X44.here hx rfl (hb hby at_205) k) ?_
      show WP p e below _ (T44.setTop (mkF m 206 #[.val (.int p1), .val (.int p2), .val (.int p3), .val (.int p4), .val (.int p5), .val (.int (1 : Int32)), .val (.int vi31), .val (.int vi33), .val (.int vi35), .val (.int vi37), .val (.int vi38), .val (.int vi39), .val (.int vi40), .val (.int vi31), .val (.ref b43), .val (.int (1 : Int32))] [(.int (3 : Int32)), (.int (1 : Int32))]))
      have hc206_51 : ((1 : Int32) < (3 : Int32)) := by decide
      refine own_go (fun t_ k => XS.icmpYes X44.here hx rfl (pc0 := 206) (pc' := 217) rfl (hb hby at_206) rfl (tlt hc206_51).1 (by decide) (by decide) k) ?_
      show WP p e below _ (T44.setTop (mkF m 217 #[.val (.int p1), .val (.int p2), .val (.int p3), .val (.int p4), .val (.int p5), .val (.int (1 : Int32)), .val (.int vi31), .val (.int vi33), .val (.int vi35), .val (.int vi37), .val (.int vi38), .val (.int vi39), .val (.int vi40), .val (.int vi31), .val (.ref b43), .val (.int (1 : Int32))] []))
      refine own_go (fun t_ k => XS.iload X44.here hx rfl (hb hby at_217) rfl k) ?_
      show WP p e below _ (T44.setTop (mkF m 219 #[.val (.int p1), .val (.int p2), .val (.int p3), .val (.int p4), .val (.int p5), .val (.int (1 : Int32)), .val (.int vi31), .val (.int vi33), .val (.int vi35), .val (.int vi37), .val (.int vi38), .val (.int vi39), .val (.int vi40), .val (.int vi31), .val (.ref b43), .val (.int (1 : Int32))] [(.int (1 : Int32))]))
      refine own_go (fun t_ k => XS.iconst X44.here hx rfl (hb hby at_219) k) ?_
      show WP p e below _ (T44.setTop (mkF m 220 #[.val (.int p1), .val (.int p2), .val (.int p3), .val (.int p4), .val (.int p5), .val (.int (1 : Int32)), .val (.int vi31), .val (.int vi33), .val (.int vi35), .val (.int vi37), .val (.int vi38), .val (.int vi39), .val (.int vi40), .val (.int vi31), .val (.ref b43), .val (.int (1 : Int32))] [(.int (4 : Int32)), (.int (1 : Int32))]))
      have hc220_52 : ((1 : Int32) < (4 : Int32)) := by decide
      refine own_go (fun t_ k => XS.icmpYes X44.here hx rfl (pc0 := 220) (pc' := 231) rfl (hb hby at_220) rfl (tlt hc220_52).1 (by decide) (by decide) k) ?_
      show WP p e below _ (T44.setTop (mkF m 231 #[.val (.int p1), .val (.int p2), .val (.int p3), .val (.int p4), .val (.int p5), .val (.int (1 : Int32)), .val (.int vi31), .val (.int vi33), .val (.int vi35), .val (.int vi37), .val (.int vi38), .val (.int vi39), .val (.int vi40), .val (.int vi31), .val (.ref b43), .val (.int (1 : Int32))] []))
      refine own_go (fun t_ k => XS.aload X44.here hx rfl (hb hby at_231) rfl rfl k) ?_
      show WP p e below _ (T44.setTop (mkF m 233 #[.val (.int p1), .val (.int p2), .val (.int p3), .val (.int p4), .val (.int p5), .val (.int (1 : Int32)), .val (.int vi31), .val (.int vi33), .val (.int vi35), .val (.int vi37), .val (.int vi38), .val (.int vi39), .val (.int vi40), .val (.int vi31), .val (.ref b43), .val (.int (1 : Int32))] [(.ref b43)]))
      obtain ⟨cq53, kq53, q53a, q53b, q53c⟩ := isOf (T := T44) hZ rfl P44.1
      obtain ⟨_, _, ⟨T53, L53, k53, n53⟩, -, X53, ⟨Lc53, hQ53, l53, y53, z53⟩, st53⟩ := X44.virtualBack hx (y := (⟨"com/example/cairn/cairn/ArrayContainer", "runCount", "()I"⟩ : MethodName)) (z := (⟨"com/example/cairn/cairn/ArrayContainer", "runCount", "()I"⟩ : MethodName)) hown (mvT hZ (hw _ (List.mem_of_getElem? (i := 42) rfl))) (mvT hZ (hw _ (List.mem_of_getElem? (i := 43) rfl))) (notFace_of_selects (args := #[]) (mvT hZ (hw _ (List.mem_of_getElem? (i := 45) rfl)))) (mvT hZ (hw _ (List.mem_of_getElem? (i := 45) rfl))) (mvT hZ (hw _ (List.mem_of_getElem? (i := 44) rfl))) (by decide) (backOf (W := 0) (rm_rc1 l Z a0 hw [] b43 t44 kk44 u ku ((vi31.toUInt32.toUInt16.toUInt32.toInt32).toUInt32.toUInt16.toUInt32.toInt32) (0 : Int32) (0 : Int32) (0 : Int32) T44.heap n0 P44) hZ (hw _ (List.mem_of_getElem? (i := 46) rfl)) (hw _ (List.mem_of_getElem? (i := 8) rfl)) (by decide) (by decide)) q53a q53c (g := (mkF m 233 #[.val (.int p1), .val (.int p2), .val (.int p3), .val (.int p4), .val (.int p5), .val (.int (1 : Int32)), .val (.int vi31), .val (.int vi33), .val (.int vi35), .val (.int vi37), .val (.int vi38), .val (.int vi39), .val (.int vi40), .val (.int vi31), .val (.ref b43), .val (.int (1 : Int32))] [(.ref b43)])) rfl (by rw [hml]; rfl) (Steps.refl _) (argsL := []) (rest := []) (lenOf pd_10 rfl) rfl (by show 2 * 0 + _ ≤ _; exact Nat.le_of_eq rfl) (hb hby at_233) (fun _ _ => ⟨rfl, rfl, (by decide : 2 + 0 ≤ _), (by decide : 8 + 0 ≤ _)⟩)
      dsimp only [Pt.U, Pt.locs, Pt.cells, Pt.slots] at X53 l53 y53 z53 st53 hQ53
      subst l53 y53 z53
      obtain ⟨rfl, N53q, e53⟩ := hQ53
      have N53 := Fr.app N44 N53q
      replace X53 : Stand p l e room_1 s m _ below meth c T53 _ 2 8 := X53
      refine own_go (fun t_ k => st53.trans k) ?_
      show WP p e below _ (T53.setTop (mkF m 236 #[.val (.int p1), .val (.int p2), .val (.int p3), .val (.int p4), .val (.int p5), .val (.int (1 : Int32)), .val (.int vi31), .val (.int vi33), .val (.int vi35), .val (.int vi37), .val (.int vi38), .val (.int vi39), .val (.int vi40), .val (.int vi31), .val (.ref b43), .val (.int (1 : Int32))] [(.int (rc1 ((vi31.toUInt32.toUInt16.toUInt32.toInt32).toUInt32.toUInt16.toUInt32.toInt32) (0 : Int32) (0 : Int32) (0 : Int32)))]))
      generalize he54 : (rc1 ((vi31.toUInt32.toUInt16.toUInt32.toInt32).toUInt32.toUInt16.toUInt32.toInt32) (0 : Int32) (0 : Int32) (0 : Int32)) = vi54
      show WP p e below _ (T53.setTop (mkF m 236 #[.val (.int p1), .val (.int p2), .val (.int p3), .val (.int p4), .val (.int p5), .val (.int (1 : Int32)), .val (.int vi31), .val (.int vi33), .val (.int vi35), .val (.int vi37), .val (.int vi38), .val (.int vi39), .val (.int vi40), .val (.int vi31), .val (.ref b43), .val (.int (1 : Int32))] [(.int vi54)]))
      refine own_go (fun t_ k => XS.iload X53.here hx rfl (hb hby at_236) rfl k) ?_
      show WP p e below _ (T53.setTop (mkF m 238 #[.val (.int p1), .val (.int p2), .val (.int p3), .val (.int p4), .val (.int p5), .val (.int (1 : Int32)), .val (.int vi31), .val (.int vi33), .val (.int vi35), .val (.int vi37), .val (.int vi38), .val (.int vi39), .val (.int vi40), .val (.int vi31), .val (.ref b43), .val (.int (1 : Int32))] [(.int (1 : Int32)), (.int vi54)]))
      have J57 : ∀ (T57 : State) (ls57 : List Loc) (X57 : Stand p l e room_1 s m #[(.int p1), (.int p2), (.int p3), (.int p4), (.int p5)] below meth c T57 ls57 2 8) (N57 : Fr n0 ls57) (e57 : T57.heap = T44.heap) (z56_S0 : Int32) (hz56_S0 : z56_S0 = (if vi54 = (1 : Int32) then (1 : Int32) else (0 : Int32))), WP p e below (GG (Q0 n0) s room_1.cells room_1.slots) (T57.setTop (mkF m 246 #[.val (.int p1), .val (.int p2), .val (.int p3), .val (.int p4), .val (.int p5), .val (.int (1 : Int32)), .val (.int vi31), .val (.int vi33), .val (.int vi35), .val (.int vi37), .val (.int vi38), .val (.int vi39), .val (.int vi40), .val (.int vi31), .val (.ref b43), .val (.int (1 : Int32))] [(.int z56_S0)])) := by
        intro T57 ls57 X57 N57 e57 z56_S0 hz56_S0
        show WP p e below _ (T57.setTop (mkF m 246 #[.val (.int p1), .val (.int p2), .val (.int p3), .val (.int p4), .val (.int p5), .val (.int (1 : Int32)), .val (.int vi31), .val (.int vi33), .val (.int vi35), .val (.int vi37), .val (.int vi38), .val (.int vi39), .val (.int vi40), .val (.int vi31), .val (.ref b43), .val (.int (1 : Int32))] [(.int z56_S0)]))
        exact own_retZ X57 hx Bd.notSynchronized Bd.returns (hb hby at_246) (by rw [hz56_S0]; (repeat' split); all_goals first | exact Or.inl rfl | exact Or.inr rfl) (show Q0 n0 _ _ _ from ⟨congrArg (fun z => some (Value.int z)) (own_law_2 (p1 := p1) (p2 := p2) (p3 := p3) (p4 := p4) (p5 := p5) he1 he31 he33 he35 he37 he38 he39 he40 he54 hz56_S0 hc101_42), N57⟩) (by decide) (by decide)
      by_cases hc238_55 : vi54 = (1 : Int32)
      · refine own_go (fun t_ k => XS.icmpNo X53.here hx rfl (hb hby at_238) rfl (teq hc238_55).2 k) ?_
        show WP p e below _ (T53.setTop (mkF m 241 #[.val (.int p1), .val (.int p2), .val (.int p3), .val (.int p4), .val (.int p5), .val (.int (1 : Int32)), .val (.int vi31), .val (.int vi33), .val (.int vi35), .val (.int vi37), .val (.int vi38), .val (.int vi39), .val (.int vi40), .val (.int vi31), .val (.ref b43), .val (.int (1 : Int32))] []))
        refine own_go (fun t_ k => XS.iconst X53.here hx rfl (hb hby at_241) k) ?_
        show WP p e below _ (T53.setTop (mkF m 242 #[.val (.int p1), .val (.int p2), .val (.int p3), .val (.int p4), .val (.int p5), .val (.int (1 : Int32)), .val (.int vi31), .val (.int vi33), .val (.int vi35), .val (.int vi37), .val (.int vi38), .val (.int vi39), .val (.int vi40), .val (.int vi31), .val (.ref b43), .val (.int (1 : Int32))] [(.int (1 : Int32))]))
        refine own_go (fun t_ k => XS.goto X53.here hx rfl (pc0 := 242) (pc' := 246) rfl (hb hby at_242) (by decide) (by decide) k) ?_
        show WP p e below _ (T53.setTop (mkF m 246 #[.val (.int p1), .val (.int p2), .val (.int p3), .val (.int p4), .val (.int p5), .val (.int (1 : Int32)), .val (.int vi31), .val (.int vi33), .val (.int vi35), .val (.int vi37), .val (.int vi38), .val (.int vi39), .val (.int vi40), .val (.int vi31), .val (.ref b43), .val (.int (1 : Int32))] [(.int (1 : Int32))]))
        exact J57 T53 _ X53 N53 e53 _ (by rw [if_pos hc238_55])
      · refine own_go (fun t_ k => XS.icmpYes X53.here hx rfl (pc0 := 238) (pc' := 245) rfl (hb hby at_238) rfl (feq hc238_55).2 (by decide) (by decide) k) ?_
        show WP p e below _ (T53.setTop (mkF m 245 #[.val (.int p1), .val (.int p2), .val (.int p3), .val (.int p4), .val (.int p5), .val (.int (1 : Int32)), .val (.int vi31), .val (.int vi33), .val (.int vi35), .val (.int vi37), .val (.int vi38), .val (.int vi39), .val (.int vi40), .val (.int vi31), .val (.ref b43), .val (.int (1 : Int32))] []))
        refine own_go (fun t_ k => XS.iconst X53.here hx rfl (hb hby at_245) k) ?_
        show WP p e below _ (T53.setTop (mkF m 246 #[.val (.int p1), .val (.int p2), .val (.int p3), .val (.int p4), .val (.int p5), .val (.int (1 : Int32)), .val (.int vi31), .val (.int vi33), .val (.int vi35), .val (.int vi37), .val (.int vi38), .val (.int vi39), .val (.int vi40), .val (.int vi31), .val (.ref b43), .val (.int (1 : Int32))] [(.int (0 : Int32))]))
        exact J57 T53 _ X53 N53 e53 _ (by rw [if_neg hc238_55])
  · subst hs2
    show WP p e below _ (s₁.setTop (mkF m 8 #[.val (.int p1), .val (.int p2), .val (.int p3), .val (.int p4), .val (.int p5), .val (.int (2 : Int32)), .unset, .unset, .unset, .unset, .unset, .unset, .unset, .unset, .unset, .unset] []))
    refine own_go (fun t_ k => XS.iloadN X0.here hx rfl (hb hby at_8) rfl k) ?_
    show WP p e below _ (s₁.setTop (mkF m 9 #[.val (.int p1), .val (.int p2), .val (.int p3), .val (.int p4), .val (.int p5), .val (.int (2 : Int32)), .unset, .unset, .unset, .unset, .unset, .unset, .unset, .unset, .unset, .unset] [(.int p1)]))
    refine own_go (fun t_ k => X0.ldcInt hx hown (mvT hZ (hw _ (List.mem_of_getElem? (i := 1) rfl))) (g := (mkF m 9 #[.val (.int p1), .val (.int p2), .val (.int p3), .val (.int p4), .val (.int p5), .val (.int (2 : Int32)), .unset, .unset, .unset, .unset, .unset, .unset, .unset, .unset, .unset, .unset] [(.int p1)])) rfl (hb hby at_9) _ k) ?_
    show WP p e below _ (s₁.setTop (mkF m 11 #[.val (.int p1), .val (.int p2), .val (.int p3), .val (.int p4), .val (.int p5), .val (.int (2 : Int32)), .unset, .unset, .unset, .unset, .unset, .unset, .unset, .unset, .unset, .unset] [(.int (65535 : Int32)), (.int p1)]))
    refine own_go (fun t_ k => XS.iand X0.here hx rfl (hb hby at_11) rfl k) ?_
    show WP p e below _ (s₁.setTop (mkF m 12 #[.val (.int p1), .val (.int p2), .val (.int p3), .val (.int p4), .val (.int p5), .val (.int (2 : Int32)), .unset, .unset, .unset, .unset, .unset, .unset, .unset, .unset, .unset, .unset] [(.int (p1 &&& (65535 : Int32)))]))
    refine own_go (fun t_ k => XS.istore X0.here hx rfl (hb hby at_12) rfl (l' := #[.val (.int p1), .val (.int p2), .val (.int p3), .val (.int p4), .val (.int p5), .val (.int (2 : Int32)), .val (.int (p1 &&& (65535 : Int32))), .unset, .unset, .unset, .unset, .unset, .unset, .unset, .unset, .unset]) rfl k) ?_
    show WP p e below _ (s₁.setTop (mkF m 14 #[.val (.int p1), .val (.int p2), .val (.int p3), .val (.int p4), .val (.int p5), .val (.int (2 : Int32)), .val (.int (p1 &&& (65535 : Int32))), .unset, .unset, .unset, .unset, .unset, .unset, .unset, .unset, .unset] []))
    generalize he58 : (p1 &&& (65535 : Int32)) = vi58
    show WP p e below _ (s₁.setTop (mkF m 14 #[.val (.int p1), .val (.int p2), .val (.int p3), .val (.int p4), .val (.int p5), .val (.int (2 : Int32)), .val (.int vi58), .unset, .unset, .unset, .unset, .unset, .unset, .unset, .unset, .unset] []))
    refine own_go (fun t_ k => XS.iloadN X0.here hx rfl (hb hby at_14) rfl k) ?_
    show WP p e below _ (s₁.setTop (mkF m 15 #[.val (.int p1), .val (.int p2), .val (.int p3), .val (.int p4), .val (.int p5), .val (.int (2 : Int32)), .val (.int vi58), .unset, .unset, .unset, .unset, .unset, .unset, .unset, .unset, .unset] [(.int p3)]))
    obtain ⟨_, _, ⟨T59, L59, k59, n59⟩, -, X59, ⟨Lc59, hQ59, l59, y59, z59⟩, st59⟩ := Jvm.LawKit.callS X0 hx (y := (⟨"com/example/cairn/cairn/ArrayContainerRunCountPinLaw", "gap", "(I)I"⟩ : MethodName)) hown (mvT hZ (hw _ (List.mem_of_getElem? (i := 2) rfl))) (mvT hZ (hw _ (List.mem_of_getElem? (i := 3) rfl))) (mvT hZ (hw _ (List.mem_of_getElem? (i := 4) rfl))) (mvT hZ (hw _ (List.mem_of_getElem? (i := 5) rfl))) (by decide) (backOf (W := 0) (rm1 l Z a0 hw [] p3 h0 n0) hZ (hw _ (List.mem_of_getElem? (i := 5) rfl)) (hw _ (List.mem_of_getElem? (i := 4) rfl)) (by decide) (by decide)) (g := (mkF m 15 #[.val (.int p1), .val (.int p2), .val (.int p3), .val (.int p4), .val (.int p5), .val (.int (2 : Int32)), .val (.int vi58), .unset, .unset, .unset, .unset, .unset, .unset, .unset, .unset, .unset] [(.int p3)])) rfl (by rw [hml]; rfl) (argsL := [(.int p3)]) (rest := []) (lenOf pd_7 rfl) rfl (by show 2 * 0 + _ ≤ _; exact Nat.le_of_eq rfl) (hb hby at_15) (fun _ _ => ⟨rfl, e0, (by decide : 0 + 0 ≤ _), (by decide : 0 + 0 ≤ _)⟩)
    dsimp only [Pt.U, Pt.locs, Pt.cells, Pt.slots] at X59 l59 y59 z59 st59 hQ59
    subst l59 y59 z59
    obtain ⟨rfl, N59q, e59⟩ := hQ59
    have N59 := Fr.app N0 N59q
    replace X59 : Stand p l e room_1 s m _ below meth c T59 _ 0 0 := X59
    refine own_go st59 ?_
    show WP p e below _ (T59.setTop (mkF m 18 #[.val (.int p1), .val (.int p2), .val (.int p3), .val (.int p4), .val (.int p5), .val (.int (2 : Int32)), .val (.int vi58), .unset, .unset, .unset, .unset, .unset, .unset, .unset, .unset, .unset] [(.int (f1 p3))]))
    generalize he60 : (f1 p3) = vi60
    show WP p e below _ (T59.setTop (mkF m 18 #[.val (.int p1), .val (.int p2), .val (.int p3), .val (.int p4), .val (.int p5), .val (.int (2 : Int32)), .val (.int vi58), .unset, .unset, .unset, .unset, .unset, .unset, .unset, .unset, .unset] [(.int vi60)]))
    refine own_go (fun t_ k => XS.istore X59.here hx rfl (hb hby at_18) rfl (l' := #[.val (.int p1), .val (.int p2), .val (.int p3), .val (.int p4), .val (.int p5), .val (.int (2 : Int32)), .val (.int vi58), .val (.int vi60), .unset, .unset, .unset, .unset, .unset, .unset, .unset, .unset]) rfl k) ?_
    show WP p e below _ (T59.setTop (mkF m 20 #[.val (.int p1), .val (.int p2), .val (.int p3), .val (.int p4), .val (.int p5), .val (.int (2 : Int32)), .val (.int vi58), .val (.int vi60), .unset, .unset, .unset, .unset, .unset, .unset, .unset, .unset] []))
    refine own_go (fun t_ k => XS.iloadN X59.here hx rfl (hb hby at_20) rfl k) ?_
    show WP p e below _ (T59.setTop (mkF m 21 #[.val (.int p1), .val (.int p2), .val (.int p3), .val (.int p4), .val (.int p5), .val (.int (2 : Int32)), .val (.int vi58), .val (.int vi60), .unset, .unset, .unset, .unset, .unset, .unset, .unset, .unset] [(.int p4)]))
    obtain ⟨_, _, ⟨T61, L61, k61, n61⟩, -, X61, ⟨Lc61, hQ61, l61, y61, z61⟩, st61⟩ := Jvm.LawKit.callS X59 hx (y := (⟨"com/example/cairn/cairn/ArrayContainerRunCountPinLaw", "gap", "(I)I"⟩ : MethodName)) hown (mvT hZ (hw _ (List.mem_of_getElem? (i := 2) rfl))) (mvT hZ (hw _ (List.mem_of_getElem? (i := 3) rfl))) (mvT hZ (hw _ (List.mem_of_getElem? (i := 4) rfl))) (mvT hZ (hw _ (List.mem_of_getElem? (i := 5) rfl))) (by decide) (backOf (W := 0) (rm1 l Z a0 hw [] p4 h0 n0) hZ (hw _ (List.mem_of_getElem? (i := 5) rfl)) (hw _ (List.mem_of_getElem? (i := 4) rfl)) (by decide) (by decide)) (g := (mkF m 21 #[.val (.int p1), .val (.int p2), .val (.int p3), .val (.int p4), .val (.int p5), .val (.int (2 : Int32)), .val (.int vi58), .val (.int vi60), .unset, .unset, .unset, .unset, .unset, .unset, .unset, .unset] [(.int p4)])) rfl (by rw [hml]; rfl) (argsL := [(.int p4)]) (rest := []) (lenOf pd_7 rfl) rfl (by show 2 * 0 + _ ≤ _; exact Nat.le_of_eq rfl) (hb hby at_21) (fun _ _ => ⟨rfl, e59, (by decide : 0 + 0 ≤ _), (by decide : 0 + 0 ≤ _)⟩)
    dsimp only [Pt.U, Pt.locs, Pt.cells, Pt.slots] at X61 l61 y61 z61 st61 hQ61
    subst l61 y61 z61
    obtain ⟨rfl, N61q, e61⟩ := hQ61
    have N61 := Fr.app N59 N61q
    replace X61 : Stand p l e room_1 s m _ below meth c T61 _ 0 0 := X61
    refine own_go st61 ?_
    show WP p e below _ (T61.setTop (mkF m 24 #[.val (.int p1), .val (.int p2), .val (.int p3), .val (.int p4), .val (.int p5), .val (.int (2 : Int32)), .val (.int vi58), .val (.int vi60), .unset, .unset, .unset, .unset, .unset, .unset, .unset, .unset] [(.int (f1 p4))]))
    generalize he62 : (f1 p4) = vi62
    show WP p e below _ (T61.setTop (mkF m 24 #[.val (.int p1), .val (.int p2), .val (.int p3), .val (.int p4), .val (.int p5), .val (.int (2 : Int32)), .val (.int vi58), .val (.int vi60), .unset, .unset, .unset, .unset, .unset, .unset, .unset, .unset] [(.int vi62)]))
    refine own_go (fun t_ k => XS.istore X61.here hx rfl (hb hby at_24) rfl (l' := #[.val (.int p1), .val (.int p2), .val (.int p3), .val (.int p4), .val (.int p5), .val (.int (2 : Int32)), .val (.int vi58), .val (.int vi60), .val (.int vi62), .unset, .unset, .unset, .unset, .unset, .unset, .unset]) rfl k) ?_
    show WP p e below _ (T61.setTop (mkF m 26 #[.val (.int p1), .val (.int p2), .val (.int p3), .val (.int p4), .val (.int p5), .val (.int (2 : Int32)), .val (.int vi58), .val (.int vi60), .val (.int vi62), .unset, .unset, .unset, .unset, .unset, .unset, .unset] []))
    refine own_go (fun t_ k => XS.iload X61.here hx rfl (hb hby at_26) rfl k) ?_
    show WP p e below _ (T61.setTop (mkF m 28 #[.val (.int p1), .val (.int p2), .val (.int p3), .val (.int p4), .val (.int p5), .val (.int (2 : Int32)), .val (.int vi58), .val (.int vi60), .val (.int vi62), .unset, .unset, .unset, .unset, .unset, .unset, .unset] [(.int p5)]))
    obtain ⟨_, _, ⟨T63, L63, k63, n63⟩, -, X63, ⟨Lc63, hQ63, l63, y63, z63⟩, st63⟩ := Jvm.LawKit.callS X61 hx (y := (⟨"com/example/cairn/cairn/ArrayContainerRunCountPinLaw", "gap", "(I)I"⟩ : MethodName)) hown (mvT hZ (hw _ (List.mem_of_getElem? (i := 2) rfl))) (mvT hZ (hw _ (List.mem_of_getElem? (i := 3) rfl))) (mvT hZ (hw _ (List.mem_of_getElem? (i := 4) rfl))) (mvT hZ (hw _ (List.mem_of_getElem? (i := 5) rfl))) (by decide) (backOf (W := 0) (rm1 l Z a0 hw [] p5 h0 n0) hZ (hw _ (List.mem_of_getElem? (i := 5) rfl)) (hw _ (List.mem_of_getElem? (i := 4) rfl)) (by decide) (by decide)) (g := (mkF m 28 #[.val (.int p1), .val (.int p2), .val (.int p3), .val (.int p4), .val (.int p5), .val (.int (2 : Int32)), .val (.int vi58), .val (.int vi60), .val (.int vi62), .unset, .unset, .unset, .unset, .unset, .unset, .unset] [(.int p5)])) rfl (by rw [hml]; rfl) (argsL := [(.int p5)]) (rest := []) (lenOf pd_7 rfl) rfl (by show 2 * 0 + _ ≤ _; exact Nat.le_of_eq rfl) (hb hby at_28) (fun _ _ => ⟨rfl, e61, (by decide : 0 + 0 ≤ _), (by decide : 0 + 0 ≤ _)⟩)
    dsimp only [Pt.U, Pt.locs, Pt.cells, Pt.slots] at X63 l63 y63 z63 st63 hQ63
    subst l63 y63 z63
    obtain ⟨rfl, N63q, e63⟩ := hQ63
    have N63 := Fr.app N61 N63q
    replace X63 : Stand p l e room_1 s m _ below meth c T63 _ 0 0 := X63
    refine own_go st63 ?_
    show WP p e below _ (T63.setTop (mkF m 31 #[.val (.int p1), .val (.int p2), .val (.int p3), .val (.int p4), .val (.int p5), .val (.int (2 : Int32)), .val (.int vi58), .val (.int vi60), .val (.int vi62), .unset, .unset, .unset, .unset, .unset, .unset, .unset] [(.int (f1 p5))]))
    generalize he64 : (f1 p5) = vi64
    show WP p e below _ (T63.setTop (mkF m 31 #[.val (.int p1), .val (.int p2), .val (.int p3), .val (.int p4), .val (.int p5), .val (.int (2 : Int32)), .val (.int vi58), .val (.int vi60), .val (.int vi62), .unset, .unset, .unset, .unset, .unset, .unset, .unset] [(.int vi64)]))
    refine own_go (fun t_ k => XS.istore X63.here hx rfl (hb hby at_31) rfl (l' := #[.val (.int p1), .val (.int p2), .val (.int p3), .val (.int p4), .val (.int p5), .val (.int (2 : Int32)), .val (.int vi58), .val (.int vi60), .val (.int vi62), .val (.int vi64), .unset, .unset, .unset, .unset, .unset, .unset]) rfl k) ?_
    show WP p e below _ (T63.setTop (mkF m 33 #[.val (.int p1), .val (.int p2), .val (.int p3), .val (.int p4), .val (.int p5), .val (.int (2 : Int32)), .val (.int vi58), .val (.int vi60), .val (.int vi62), .val (.int vi64), .unset, .unset, .unset, .unset, .unset, .unset] []))
    refine own_go (fun t_ k => XS.iload X63.here hx rfl (hb hby at_33) rfl k) ?_
    show WP p e below _ (T63.setTop (mkF m 35 #[.val (.int p1), .val (.int p2), .val (.int p3), .val (.int p4), .val (.int p5), .val (.int (2 : Int32)), .val (.int vi58), .val (.int vi60), .val (.int vi62), .val (.int vi64), .unset, .unset, .unset, .unset, .unset, .unset] [(.int vi58)]))
    refine own_go (fun t_ k => XS.iconst X63.here hx rfl (hb hby at_35) k) ?_
    show WP p e below _ (T63.setTop (mkF m 36 #[.val (.int p1), .val (.int p2), .val (.int p3), .val (.int p4), .val (.int p5), .val (.int (2 : Int32)), .val (.int vi58), .val (.int vi60), .val (.int vi62), .val (.int vi64), .unset, .unset, .unset, .unset, .unset, .unset] [(.int (1 : Int32)), (.int vi58)]))
    refine own_go (fun t_ k => XS.iadd X63.here hx rfl (hb hby at_36) rfl k) ?_
    show WP p e below _ (T63.setTop (mkF m 37 #[.val (.int p1), .val (.int p2), .val (.int p3), .val (.int p4), .val (.int p5), .val (.int (2 : Int32)), .val (.int vi58), .val (.int vi60), .val (.int vi62), .val (.int vi64), .unset, .unset, .unset, .unset, .unset, .unset] [(.int (vi58 + (1 : Int32)))]))
    refine own_go (fun t_ k => XS.iload X63.here hx rfl (hb hby at_37) rfl k) ?_
    show WP p e below _ (T63.setTop (mkF m 39 #[.val (.int p1), .val (.int p2), .val (.int p3), .val (.int p4), .val (.int p5), .val (.int (2 : Int32)), .val (.int vi58), .val (.int vi60), .val (.int vi62), .val (.int vi64), .unset, .unset, .unset, .unset, .unset, .unset] [(.int vi60), (.int (vi58 + (1 : Int32)))]))
    refine own_go (fun t_ k => XS.iadd X63.here hx rfl (hb hby at_39) rfl k) ?_
    show WP p e below _ (T63.setTop (mkF m 40 #[.val (.int p1), .val (.int p2), .val (.int p3), .val (.int p4), .val (.int p5), .val (.int (2 : Int32)), .val (.int vi58), .val (.int vi60), .val (.int vi62), .val (.int vi64), .unset, .unset, .unset, .unset, .unset, .unset] [(.int ((vi58 + (1 : Int32)) + vi60))]))
    refine own_go (fun t_ k => XS.istore X63.here hx rfl (hb hby at_40) rfl (l' := #[.val (.int p1), .val (.int p2), .val (.int p3), .val (.int p4), .val (.int p5), .val (.int (2 : Int32)), .val (.int vi58), .val (.int vi60), .val (.int vi62), .val (.int vi64), .val (.int ((vi58 + (1 : Int32)) + vi60)), .unset, .unset, .unset, .unset, .unset]) rfl k) ?_
    show WP p e below _ (T63.setTop (mkF m 42 #[.val (.int p1), .val (.int p2), .val (.int p3), .val (.int p4), .val (.int p5), .val (.int (2 : Int32)), .val (.int vi58), .val (.int vi60), .val (.int vi62), .val (.int vi64), .val (.int ((vi58 + (1 : Int32)) + vi60)), .unset, .unset, .unset, .unset, .unset] []))
    generalize he65 : ((vi58 + (1 : Int32)) + vi60) = vi65
    show WP p e below _ (T63.setTop (mkF m 42 #[.val (.int p1), .val (.int p2), .val (.int p3), .val (.int p4), .val (.int p5), .val (.int (2 : Int32)), .val (.int vi58), .val (.int vi60), .val (.int vi62), .val (.int vi64), .val (.int vi65), .unset, .unset, .unset, .unset, .unset] []))
    refine own_go (fun t_ k => XS.iload X63.here hx rfl (hb hby at_42) rfl k) ?_
    show WP p e below _ (T63.setTop (mkF m 44 #[.val (.int p1), .val (.int p2), .val (.int p3), .val (.int p4), .val (.int p5), .val (.int (2 : Int32)), .val (.int vi58), .val (.int vi60), .val (.int vi62), .val (.int vi64), .val (.int vi65), .unset, .unset, .unset, .unset, .unset] [(.int vi65)]))
    refine own_go (fun t_ k => XS.iconst X63.here hx rfl (hb hby at_44) k) ?_
    show WP p e below _ (T63.setTop (mkF m 45 #[.val (.int p1), .val (.int p2), .val (.int p3), .val (.int p4), .val (.int p5), .val (.int (2 : Int32)), .val (.int vi58), .val (.int vi60), .val (.int vi62), .val (.int vi64), .val (.int vi65), .unset, .unset, .unset, .unset, .unset] [(.int (1 : Int32)), (.int vi65)]))
    refine own_go (fun t_ k => XS.iadd X63.here hx rfl (hb hby at_45) rfl k) ?_
    show WP p e below _ (T63.setTop (mkF m 46 #[.val (.int p1), .val (.int p2), .val (.int p3), .val (.int p4), .val (.int p5), .val (.int (2 : Int32)), .val (.int vi58), .val (.int vi60), .val (.int vi62), .val (.int vi64), .val (.int vi65), .unset, .unset, .unset, .unset, .unset] [(.int (vi65 + (1 : Int32)))]))
    refine own_go (fun t_ k => XS.iload X63.here hx rfl (hb hby at_46) rfl k) ?_
    show WP p e below _ (T63.setTop (mkF m 48 #[.val (.int p1), .val (.int p2), .val (.int p3), .val (.int p4), .val (.int p5), .val (.int (2 : Int32)), .val (.int vi58), .val (.int vi60), .val (.int vi62), .val (.int vi64), .val (.int vi65), .unset, .unset, .unset, .unset, .unset] [(.int vi62), (.int (vi65 + (1 : Int32)))]))
    refine own_go (fun t_ k => XS.iadd X63.here hx rfl (hb hby at_48) rfl k) ?_
    show WP p e below _ (T63.setTop (mkF m 49 #[.val (.int p1), .val (.int p2), .val (.int p3), .val (.int p4), .val (.int p5), .val (.int (2 : Int32)), .val (.int vi58), .val (.int vi60), .val (.int vi62), .val (.int vi64), .val (.int vi65), .unset, .unset, .unset, .unset, .unset] [(.int ((vi65 + (1 : Int32)) + vi62))]))
    refine own_go (fun t_ k => XS.istore X63.here hx rfl (hb hby at_49) rfl (l' := #[.val (.int p1), .val (.int p2), .val (.int p3), .val (.int p4), .val (.int p5), .val (.int (2 : Int32)), .val (.int vi58), .val (.int vi60), .val (.int vi62), .val (.int vi64), .val (.int vi65), .val (.int ((vi65 + (1 : Int32)) + vi62)), .unset, .unset, .unset, .unset]) rfl k) ?_
    show WP p e below _ (T63.setTop (mkF m 51 #[.val (.int p1), .val (.int p2), .val (.int p3), .val (.int p4), .val (.int p5), .val (.int (2 : Int32)), .val (.int vi58), .val (.int vi60), .val (.int vi62), .val (.int vi64), .val (.int vi65), .val (.int ((vi65 + (1 : Int32)) + vi62)), .unset, .unset, .unset, .unset] []))
    generalize he66 : ((vi65 + (1 : Int32)) + vi62) = vi66
    show WP p e below _ (T63.setTop (mkF m 51 #[.val (.int p1), .val (.int p2), .val (.int p3), .val (.int p4), .val (.int p5), .val (.int (2 : Int32)), .val (.int vi58), .val (.int vi60), .val (.int vi62), .val (.int vi64), .val (.int vi65), .val (.int vi66), .unset, .unset, .unset, .unset] []))
    refine own_go (fun t_ k => XS.iload X63.here hx rfl (hb hby at_51) rfl k) ?_
    show WP p e below _ (T63.setTop (mkF m 53 #[.val (.int p1), .val (.int p2), .val (.int p3), .val (.int p4), .val (.int p5), .val (.int (2 : Int32)), .val (.int vi58), .val (.int vi60), .val (.int vi62), .val (.int vi64), .val (.int vi65), .val (.int vi66), .unset, .unset, .unset, .unset] [(.int vi66)]))
    refine own_go (fun t_ k => XS.iconst X63.here hx rfl (hb hby at_53) k) ?_
    show WP p e below _ (T63.setTop (mkF m 54 #[.val (.int p1), .val (.int p2), .val (.int p3), .val (.int p4), .val (.int p5), .val (.int (2 : Int32)), .val (.int vi58), .val (.int vi60), .val (.int vi62), .val (.int vi64), .val (.int vi65), .val (.int vi66), .unset, .unset, .unset, .unset] [(.int (1 : Int32)), (.int vi66)]))
    refine own_go (fun t_ k => XS.iadd X63.here hx rfl (hb hby at_54) rfl k) ?_
    show WP p e below _ (T63.setTop (mkF m 55 #[.val (.int p1), .val (.int p2), .val (.int p3), .val (.int p4), .val (.int p5), .val (.int (2 : Int32)), .val (.int vi58), .val (.int vi60), .val (.int vi62), .val (.int vi64), .val (.int vi65), .val (.int vi66), .unset, .unset, .unset, .unset] [(.int (vi66 + (1 : Int32)))]))
    refine own_go (fun t_ k => XS.iload X63.here hx rfl (hb hby at_55) rfl k) ?_
    show WP p e below _ (T63.setTop (mkF m 57 #[.val (.int p1), .val (.int p2), .val (.int p3), .val (.int p4), .val (.int p5), .val (.int (2 : Int32)), .val (.int vi58), .val (.int vi60), .val (.int vi62), .val (.int vi64), .val (.int vi65), .val (.int vi66), .unset, .unset, .unset, .unset] [(.int vi64), (.int (vi66 + (1 : Int32)))]))
    refine own_go (fun t_ k => XS.iadd X63.here hx rfl (hb hby at_57) rfl k) ?_
    show WP p e below _ (T63.setTop (mkF m 58 #[.val (.int p1), .val (.int p2), .val (.int p3), .val (.int p4), .val (.int p5), .val (.int (2 : Int32)), .val (.int vi58), .val (.int vi60), .val (.int vi62), .val (.int vi64), .val (.int vi65), .val (.int vi66), .unset, .unset, .unset, .unset] [(.int ((vi66 + (1 : Int32)) + vi64))]))
    refine own_go (fun t_ k => XS.istore X63.here hx rfl (hb hby at_58) rfl (l' := #[.val (.int p1), .val (.int p2), .val (.int p3), .val (.int p4), .val (.int p5), .val (.int (2 : Int32)), .val (.int vi58), .val (.int vi60), .val (.int vi62), .val (.int vi64), .val (.int vi65), .val (.int vi66), .val (.int ((vi66 + (1 : Int32)) + vi64)), .unset, .unset, .unset]) rfl k) ?_
    show WP p e below _ (T63.setTop (mkF m 60 #[.val (.int p1), .val (.int p2), .val (.int p3), .val (.int p4), .val (.int p5), .val (.int (2 : Int32)), .val (.int vi58), .val (.int vi60), .val (.int vi62), .val (.int vi64), .val (.int vi65), .val (.int vi66), .val (.int ((vi66 + (1 : Int32)) + vi64)), .unset, .unset, .unset] []))
    generalize he67 : ((vi66 + (1 : Int32)) + vi64) = vi67
    show WP p e below _ (T63.setTop (mkF m 60 #[.val (.int p1), .val (.int p2), .val (.int p3), .val (.int p4), .val (.int p5), .val (.int (2 : Int32)), .val (.int vi58), .val (.int vi60), .val (.int vi62), .val (.int vi64), .val (.int vi65), .val (.int vi66), .val (.int vi67), .unset, .unset, .unset] []))
    refine own_go (fun t_ k => XS.iload X63.here hx rfl (hb hby at_60) rfl k) ?_
    show WP p e below _ (T63.setTop (mkF m 62 #[.val (.int p1), .val (.int p2), .val (.int p3), .val (.int p4), .val (.int p5), .val (.int (2 : Int32)), .val (.int vi58), .val (.int vi60), .val (.int vi62), .val (.int vi64), .val (.int vi65), .val (.int vi66), .val (.int vi67), .unset, .unset, .unset] [(.int (2 : Int32))]))
    refine own_go (fun t_ k => XS.iconst X63.here hx rfl (hb hby at_62) k) ?_
    show WP p e below _ (T63.setTop (mkF m 63 #[.val (.int p1), .val (.int p2), .val (.int p3), .val (.int p4), .val (.int p5), .val (.int (2 : Int32)), .val (.int vi58), .val (.int vi60), .val (.int vi62), .val (.int vi64), .val (.int vi65), .val (.int vi66), .val (.int vi67), .unset, .unset, .unset] [(.int (1 : Int32)), (.int (2 : Int32))]))
    have hc63_68 : ((1 : Int32) < (2 : Int32)) := by decide
    refine own_go (fun t_ k => XS.icmpYes X63.here hx rfl (pc0 := 63) (pc' := 71) rfl (hb hby at_63) rfl (tlt hc63_68).2.2.1 (by decide) (by decide) k) ?_
    show WP p e below _ (T63.setTop (mkF m 71 #[.val (.int p1), .val (.int p2), .val (.int p3), .val (.int p4), .val (.int p5), .val (.int (2 : Int32)), .val (.int vi58), .val (.int vi60), .val (.int vi62), .val (.int vi64), .val (.int vi65), .val (.int vi66), .val (.int vi67), .unset, .unset, .unset] []))
    refine own_go (fun t_ k => XS.iload X63.here hx rfl (hb hby at_71) rfl k) ?_
    show WP p e below _ (T63.setTop (mkF m 73 #[.val (.int p1), .val (.int p2), .val (.int p3), .val (.int p4), .val (.int p5), .val (.int (2 : Int32)), .val (.int vi58), .val (.int vi60), .val (.int vi62), .val (.int vi64), .val (.int vi65), .val (.int vi66), .val (.int vi67), .unset, .unset, .unset] [(.int (2 : Int32))]))
    refine own_go (fun t_ k => XS.iconst X63.here hx rfl (hb hby at_73) k) ?_
    show WP p e below _ (T63.setTop (mkF m 74 #[.val (.int p1), .val (.int p2), .val (.int p3), .val (.int p4), .val (.int p5), .val (.int (2 : Int32)), .val (.int vi58), .val (.int vi60), .val (.int vi62), .val (.int vi64), .val (.int vi65), .val (.int vi66), .val (.int vi67), .unset, .unset, .unset] [(.int (2 : Int32)), (.int (2 : Int32))]))
    have hc74_69 : ((2 : Int32) = (2 : Int32)) := by decide
    refine own_go (fun t_ k => XS.icmpNo X63.here hx rfl (hb hby at_74) rfl (teq hc74_69).2 k) ?_
    show WP p e below _ (T63.setTop (mkF m 77 #[.val (.int p1), .val (.int p2), .val (.int p3), .val (.int p4), .val (.int p5), .val (.int (2 : Int32)), .val (.int vi58), .val (.int vi60), .val (.int vi62), .val (.int vi64), .val (.int vi65), .val (.int vi66), .val (.int vi67), .unset, .unset, .unset] []))
    refine own_go (fun t_ k => XS.iload X63.here hx rfl (hb hby at_77) rfl k) ?_
    show WP p e below _ (T63.setTop (mkF m 79 #[.val (.int p1), .val (.int p2), .val (.int p3), .val (.int p4), .val (.int p5), .val (.int (2 : Int32)), .val (.int vi58), .val (.int vi60), .val (.int vi62), .val (.int vi64), .val (.int vi65), .val (.int vi66), .val (.int vi67), .unset, .unset, .unset] [(.int vi65)]))
    refine own_go (fun t_ k => XS.goto X63.here hx rfl (pc0 := 79) (pc' := 95) rfl (hb hby at_79) (by decide) (by decide) k) ?_
    show WP p e below _ (T63.setTop (mkF m 95 #[.val (.int p1), .val (.int p2), .val (.int p3), .val (.int p4), .val (.int p5), .val (.int (2 : Int32)), .val (.int vi58), .val (.int vi60), .val (.int vi62), .val (.int vi64), .val (.int vi65), .val (.int vi66), .val (.int vi67), .unset, .unset, .unset] [(.int vi65)]))
    refine own_go (fun t_ k => XS.istore X63.here hx rfl (hb hby at_95) rfl (l' := #[.val (.int p1), .val (.int p2), .val (.int p3), .val (.int p4), .val (.int p5), .val (.int (2 : Int32)), .val (.int vi58), .val (.int vi60), .val (.int vi62), .val (.int vi64), .val (.int vi65), .val (.int vi66), .val (.int vi67), .val (.int vi65), .unset, .unset]) rfl k) ?_
    show WP p e below _ (T63.setTop (mkF m 97 #[.val (.int p1), .val (.int p2), .val (.int p3), .val (.int p4), .val (.int p5), .val (.int (2 : Int32)), .val (.int vi58), .val (.int vi60), .val (.int vi62), .val (.int vi64), .val (.int vi65), .val (.int vi66), .val (.int vi67), .val (.int vi65), .unset, .unset] []))
    refine own_go (fun t_ k => XS.iload X63.here hx rfl (hb hby at_97) rfl k) ?_
    show WP p e below _ (T63.setTop (mkF m 99 #[.val (.int p1), .val (.int p2), .val (.int p3), .val (.int p4), .val (.int p5), .val (.int (2 : Int32)), .val (.int vi58), .val (.int vi60), .val (.int vi62), .val (.int vi64), .val (.int vi65), .val (.int vi66), .val (.int vi67), .val (.int vi65), .unset, .unset] [(.int vi65)]))
    refine own_go (fun t_ k => X63.ldcInt hx hown (mvT hZ (hw _ (List.mem_of_getElem? (i := 1) rfl))) (g := (mkF m 99 #[.val (.int p1), .val (.int p2), .val (.int p3), .val (.int p4), .val (.int p5), .val (.int (2 : Int32)), .val (.int vi58), .val (.int vi60), .val (.int vi62), .val (.int vi64), .val (.int vi65), .val (.int vi66), .val (.int vi67), .val (.int vi65), .unset, .unset] [(.int vi65)])) rfl (hb hby at_99) _ k) ?_
    show WP p e below _ (T63.setTop (mkF m 101 #[.val (.int p1), .val (.int p2), .val (.int p3), .val (.int p4), .val (.int p5), .val (.int (2 : Int32)), .val (.int vi58), .val (.int vi60), .val (.int vi62), .val (.int vi64), .val (.int vi65), .val (.int vi66), .val (.int vi67), .val (.int vi65), .unset, .unset] [(.int (65535 : Int32)), (.int vi65)]))
    by_cases hc101_70 : (65535 : Int32) < vi65
    · refine own_go (fun t_ k => XS.icmpNo X63.here hx rfl (hb hby at_101) rfl (tlt hc101_70).2.2.2 k) ?_
      show WP p e below _ (T63.setTop (mkF m 104 #[.val (.int p1), .val (.int p2), .val (.int p3), .val (.int p4), .val (.int p5), .val (.int (2 : Int32)), .val (.int vi58), .val (.int vi60), .val (.int vi62), .val (.int vi64), .val (.int vi65), .val (.int vi66), .val (.int vi67), .val (.int vi65), .unset, .unset] []))
      refine own_go (fun t_ k => XS.iconst X63.here hx rfl (hb hby at_104) k) ?_
      show WP p e below _ (T63.setTop (mkF m 105 #[.val (.int p1), .val (.int p2), .val (.int p3), .val (.int p4), .val (.int p5), .val (.int (2 : Int32)), .val (.int vi58), .val (.int vi60), .val (.int vi62), .val (.int vi64), .val (.int vi65), .val (.int vi66), .val (.int vi67), .val (.int vi65), .unset, .unset] [(.int (1 : Int32))]))
      exact own_retZ X63 hx Bd.notSynchronized Bd.returns (hb hby at_105) (by decide) (show Q0 n0 _ _ _ from ⟨rfl, N63⟩) (by decide) (by decide)
    · refine own_go (fun t_ k => XS.icmpYes X63.here hx rfl (pc0 := 101) (pc' := 106) rfl (hb hby at_101) rfl (flt hc101_70).2.2.2 (by decide) (by decide) k) ?_
      have bv0 := own_v0 he58
      have bd1 := own_gap he60
      have bv1 := own_next (by omega) (by omega) bd1 he65
      have bd2 := own_gap he62
      have bv2 := own_next (by omega) (by omega) bd2 he66
      have bd3 := own_gap he64
      have bv3 := own_next (by omega) (by omega) bd3 he67
      have bl := hc101_70
      rw [Int32.lt_iff_toInt_lt, show (65535 : Int32).toInt = 65535 from rfl] at bl
      show WP p e below _ (T63.setTop (mkF m 106 #[.val (.int p1), .val (.int p2), .val (.int p3), .val (.int p4), .val (.int p5), .val (.int (2 : Int32)), .val (.int vi58), .val (.int vi60), .val (.int vi62), .val (.int vi64), .val (.int vi65), .val (.int vi66), .val (.int vi67), .val (.int vi65), .unset, .unset] []))
      obtain ⟨T71, h71, X71, e71, E71, A71, D71, -, st71⟩ := newO X63 hx hZ hown (hw _ (List.mem_of_getElem? (i := 6) rfl)) (hw _ (List.mem_of_getElem? (i := 7) rfl)) (hw _ (List.mem_of_getElem? (i := 8) rfl)) e63 (g := (mkF m 106 #[.val (.int p1), .val (.int p2), .val (.int p3), .val (.int p4), .val (.int p5), .val (.int (2 : Int32)), .val (.int vi58), .val (.int vi60), .val (.int vi62), .val (.int vi64), .val (.int vi65), .val (.int vi66), .val (.int vi67), .val (.int vi65), .unset, .unset] [])) rfl (hb hby at_106) (by decide) (by decide)
      obtain ⟨b71, g71⟩ : ∃ z, z = Array.size h0 := ⟨_, rfl⟩
      rw [← g71] at A71 D71 st71
      refine own_go st71 ?_
      have g_b71 : n0 ≤ b71 := Nat.le_trans (Nat.le_trans Z0 (Keep.refl h0 []).1) (Nat.le_of_eq g71.symm)
      have sz_b71 : h0.size ≤ b71 := Nat.le_trans (Keep.refl h0 []).1 (Nat.le_of_eq g71.symm)
      have ne_u_b71 : u ≠ b71 := Nat.ne_of_lt (Nat.lt_of_lt_of_le V_u.lt (Nat.le_of_eq g71.symm))
      have K71 : Keep h0 h71 [] := (Keep.refl h0 []).ext E71
      have F71_occupiedWords : Fld Z h71 b71 "com/example/cairn/cairn/ArrayContainer" "occupiedWords" "[J" .null := D71 (Or.inl (hw _ (List.mem_of_getElem? (i := 23) rfl))) (ty := (.array .long)) (by decide)
      have F71_values : Fld Z h71 b71 "com/example/cairn/cairn/ArrayContainer" "values" "[C" .null := D71 (Or.inl (hw _ (List.mem_of_getElem? (i := 26) rfl))) (ty := (.array .char)) (by decide)
      have F71_cardinality : Fld Z h71 b71 "com/example/cairn/cairn/ArrayContainer" "cardinality" "C" (.int (0 : Int32)) := D71 (Or.inl (hw _ (List.mem_of_getElem? (i := 28) rfl))) (ty := .char) (by decide)
      have F71_shared : Fld Z h71 b71 "com/example/cairn/cairn/Container" "shared" "Z" (.int (0 : Int32)) := D71 (Or.inl (hw _ (List.mem_of_getElem? (i := 41) rfl))) (ty := .boolean) (by decide)
      show WP p e below _ (T71.setTop (mkF m 109 #[.val (.int p1), .val (.int p2), .val (.int p3), .val (.int p4), .val (.int p5), .val (.int (2 : Int32)), .val (.int vi58), .val (.int vi60), .val (.int vi62), .val (.int vi64), .val (.int vi65), .val (.int vi66), .val (.int vi67), .val (.int vi65), .unset, .unset] [(.ref b71)]))
      refine own_go (fun t_ k => XS.dup X71.here hx rfl (hb hby at_109) rfl rfl k) ?_
      show WP p e below _ (T71.setTop (mkF m 110 #[.val (.int p1), .val (.int p2), .val (.int p3), .val (.int p4), .val (.int p5), .val (.int (2 : Int32)), .val (.int vi58), .val (.int vi60), .val (.int vi62), .val (.int vi64), .val (.int vi65), .val (.int vi66), .val (.int vi67), .val (.int vi65), .unset, .unset] [(.ref b71), (.ref b71)]))
      refine own_go (fun t_ k => XS.iload X71.here hx rfl (hb hby at_110) rfl k) ?_
      show WP p e below _ (T71.setTop (mkF m 112 #[.val (.int p1), .val (.int p2), .val (.int p3), .val (.int p4), .val (.int p5), .val (.int (2 : Int32)), .val (.int vi58), .val (.int vi60), .val (.int vi62), .val (.int vi64), .val (.int vi65), .val (.int vi66), .val (.int vi67), .val (.int vi65), .unset, .unset] [(.int vi58), (.ref b71), (.ref b71)]))
      refine own_go (fun t_ k => XS.i2c X71.here hx rfl (hb hby at_112) rfl k) ?_
      show WP p e below _ (T71.setTop (mkF m 113 #[.val (.int p1), .val (.int p2), .val (.int p3), .val (.int p4), .val (.int p5), .val (.int (2 : Int32)), .val (.int vi58), .val (.int vi60), .val (.int vi62), .val (.int vi64), .val (.int vi65), .val (.int vi66), .val (.int vi67), .val (.int vi65), .unset, .unset] [(.int (vi58.toUInt32.toUInt16.toUInt32.toInt32)), (.ref b71), (.ref b71)]))
      obtain ⟨_, _, ⟨T72, L72, k72, n72⟩, -, X72, ⟨Lc72, hQ72, l72, y72, z72⟩, st72⟩ := X71.specialBack hx (y := (⟨"com/example/cairn/cairn/ArrayContainer", "<init>", "(C)V"⟩ : MethodName)) rfl hown (mvT hZ (hw _ (List.mem_of_getElem? (i := 9) rfl))) (mvT hZ (hw _ (List.mem_of_getElem? (i := 10) rfl))) (mvT hZ (hw _ (List.mem_of_getElem? (i := 11) rfl))) (by decide) (backOf (W := 1) (rm2 l Z a0 hw [] b71 (vi58.toUInt32.toUInt16.toUInt32.toInt32) u ku h71 n0 (Nat.le_trans Z0 K71.1) A71 g_b71 F71_values F71_cardinality F71_occupiedWords F71_shared (S_u.ext E71) (V_u.ext E71) ne_u_b71) hZ (hw _ (List.mem_of_getElem? (i := 11) rfl)) (hw _ (List.mem_of_getElem? (i := 8) rfl)) (by decide) (by decide)) (g := (mkF m 113 #[.val (.int p1), .val (.int p2), .val (.int p3), .val (.int p4), .val (.int p5), .val (.int (2 : Int32)), .val (.int vi58), .val (.int vi60), .val (.int vi62), .val (.int vi64), .val (.int vi65), .val (.int vi66), .val (.int vi67), .val (.int vi65), .unset, .unset] [(.int (vi58.toUInt32.toUInt16.toUInt32.toInt32)), (.ref b71), (.ref b71)])) rfl (by rw [hml]; rfl) (Steps.refl _) (a := b71) (argsL := [(.int (vi58.toUInt32.toUInt16.toUInt32.toInt32))]) (rest := [(.ref b71)]) (lenOf pd_8 rfl) rfl (by show 2 * 0 + _ ≤ _; exact Nat.le_of_eq rfl) (hb hby at_113) (fun _ _ => ⟨rfl, e71, (by decide : 1 + 1 ≤ _), (by decide : 4 + 4 ≤ _)⟩)
      dsimp only [Pt.U, Pt.locs, Pt.cells, Pt.slots] at X72 l72 y72 z72 st72 hQ72
      subst l72 y72 z72
      obtain ⟨rfl, N72q, K72c, t72, kk72, gt72, szt72', P72⟩ := hQ72
      have N72 := Fr.app N63 N72q
      replace X72 : Stand p l e room_1 s m _ below meth c T72 _ 2 8 := X72
      refine own_go (fun t_ k => st72.trans k) ?_
      have K72 : Keep h0 T72.heap [] := K71.trans K72c (allS (Or.inr sz_b71) all0)
      have szt72 : h0.size ≤ t72 := Nat.le_trans K71.1 szt72'
      show WP p e below _ (T72.setTop (mkF m 116 #[.val (.int p1), .val (.int p2), .val (.int p3), .val (.int p4), .val (.int p5), .val (.int (2 : Int32)), .val (.int vi58), .val (.int vi60), .val (.int vi62), .val (.int vi64), .val (.int vi65), .val (.int vi66), .val (.int vi67), .val (.int vi65), .unset, .unset] [(.ref b71)]))
      refine own_go (fun t_ k => XS.astore X72.here hx rfl (hb hby at_116) rfl rfl (l' := #[.val (.int p1), .val (.int p2), .val (.int p3), .val (.int p4), .val (.int p5), .val (.int (2 : Int32)), .val (.int vi58), .val (.int vi60), .val (.int vi62), .val (.int vi64), .val (.int vi65), .val (.int vi66), .val (.int vi67), .val (.int vi65), .val (.ref b71), .unset]) rfl k) ?_
      show WP p e below _ (T72.setTop (mkF m 118 #[.val (.int p1), .val (.int p2), .val (.int p3), .val (.int p4), .val (.int p5), .val (.int (2 : Int32)), .val (.int vi58), .val (.int vi60), .val (.int vi62), .val (.int vi64), .val (.int vi65), .val (.int vi66), .val (.int vi67), .val (.int vi65), .val (.ref b71), .unset] []))
      refine own_go (fun t_ k => XS.iload X72.here hx rfl (hb hby at_118) rfl k) ?_
      show WP p e below _ (T72.setTop (mkF m 120 #[.val (.int p1), .val (.int p2), .val (.int p3), .val (.int p4), .val (.int p5), .val (.int (2 : Int32)), .val (.int vi58), .val (.int vi60), .val (.int vi62), .val (.int vi64), .val (.int vi65), .val (.int vi66), .val (.int vi67), .val (.int vi65), .val (.ref b71), .unset] [(.int (2 : Int32))]))
      have hc120_73 : ¬ ((2 : Int32) = (0 : Int32)) := by decide
      refine own_go (fun t_ k => XS.ifYes X72.here hx rfl (pc0 := 120) (pc' := 132) rfl (hb hby at_120) rfl ((if0 _ _).trans (feq hc120_73).2) (by decide) (by decide) k) ?_
      show WP p e below _ (T72.setTop (mkF m 132 #[.val (.int p1), .val (.int p2), .val (.int p3), .val (.int p4), .val (.int p5), .val (.int (2 : Int32)), .val (.int vi58), .val (.int vi60), .val (.int vi62), .val (.int vi64), .val (.int vi65), .val (.int vi66), .val (.int vi67), .val (.int vi65), .val (.ref b71), .unset] []))
      refine own_go (fun t_ k => XS.iload X72.here hx rfl (hb hby at_132) rfl k) ?_
      show WP p e below _ (T72.setTop (mkF m 134 #[.val (.int p1), .val (.int p2), .val (.int p3), .val (.int p4), .val (.int p5), .val (.int (2 : Int32)), .val (.int vi58), .val (.int vi60), .val (.int vi62), .val (.int vi64), .val (.int vi65), .val (.int vi66), .val (.int vi67), .val (.int vi65), .val (.ref b71), .unset] [(.int (2 : Int32))]))
      refine own_go (fun t_ k => XS.iconst X72.here hx rfl (hb hby at_134) k) ?_
      show WP p e below _ (T72.setTop (mkF m 135 #[.val (.int p1), .val (.int p2), .val (.int p3), .val (.int p4), .val (.int p5), .val (.int (2 : Int32)), .val (.int vi58), .val (.int vi60), .val (.int vi62), .val (.int vi64), .val (.int vi65), .val (.int vi66), .val (.int vi67), .val (.int vi65), .val (.ref b71), .unset] [(.int (2 : Int32)), (.int (2 : Int32))]))
      have hc135_74 : ¬ ((2 : Int32) < (2 : Int32)) := by decide
      refine own_go (fun t_ k => XS.icmpNo X72.here hx rfl (hb hby at_135) rfl (flt hc135_74).1 k) ?_
      show WP p e below _ (T72.setTop (mkF m 138 #[.val (.int p1), .val (.int p2), .val (.int p3), .val (.int p4), .val (.int p5), .val (.int (2 : Int32)), .val (.int vi58), .val (.int vi60), .val (.int vi62), .val (.int vi64), .val (.int vi65), .val (.int vi66), .val (.int vi67), .val (.int vi65), .val (.ref b71), .unset] []))
      refine own_go (fun t_ k => XS.aload X72.here hx rfl (hb hby at_138) rfl rfl k) ?_
      show WP p e below _ (T72.setTop (mkF m 140 #[.val (.int p1), .val (.int p2), .val (.int p3), .val (.int p4), .val (.int p5), .val (.int (2 : Int32)), .val (.int vi58), .val (.int vi60), .val (.int vi62), .val (.int vi64), .val (.int vi65), .val (.int vi66), .val (.int vi67), .val (.int vi65), .val (.ref b71), .unset] [(.ref b71)]))
      refine own_go (fun t_ k => XS.iload X72.here hx rfl (hb hby at_140) rfl k) ?_
      show WP p e below _ (T72.setTop (mkF m 142 #[.val (.int p1), .val (.int p2), .val (.int p3), .val (.int p4), .val (.int p5), .val (.int (2 : Int32)), .val (.int vi58), .val (.int vi60), .val (.int vi62), .val (.int vi64), .val (.int vi65), .val (.int vi66), .val (.int vi67), .val (.int vi65), .val (.ref b71), .unset] [(.int vi65), (.ref b71)]))
      refine own_go (fun t_ k => XS.i2c X72.here hx rfl (hb hby at_142) rfl k) ?_
      show WP p e below _ (T72.setTop (mkF m 143 #[.val (.int p1), .val (.int p2), .val (.int p3), .val (.int p4), .val (.int p5), .val (.int (2 : Int32)), .val (.int vi58), .val (.int vi60), .val (.int vi62), .val (.int vi64), .val (.int vi65), .val (.int vi66), .val (.int vi67), .val (.int vi65), .val (.ref b71), .unset] [(.int (vi65.toUInt32.toUInt16.toUInt32.toInt32)), (.ref b71)]))
      obtain ⟨cq75, kq75, q75a, q75b, q75c⟩ := isOf (T := T72) hZ rfl P72.1
      obtain ⟨_, _, ⟨T75, L75, k75, n75⟩, -, X75, ⟨Lc75, hQ75, l75, y75, z75⟩, st75⟩ := X72.virtualBack hx (y := (⟨"com/example/cairn/cairn/ArrayContainer", "add", "(C)Lcom/example/cairn/cairn/Container;"⟩ : MethodName)) (z := (⟨"com/example/cairn/cairn/ArrayContainer", "add", "(C)Lcom/example/cairn/cairn/Container;"⟩ : MethodName)) hown (mvT hZ (hw _ (List.mem_of_getElem? (i := 29) rfl))) (mvT hZ (hw _ (List.mem_of_getElem? (i := 30) rfl))) (notFace_of_selects (args := #[]) (mvT hZ (hw _ (List.mem_of_getElem? (i := 32) rfl)))) (mvT hZ (hw _ (List.mem_of_getElem? (i := 32) rfl))) (mvT hZ (hw _ (List.mem_of_getElem? (i := 31) rfl))) (by decide) (backOf (W := 0) (rm_a1 l Z a0 hw [] b71 (vi65.toUInt32.toUInt16.toUInt32.toInt32) t72 kk72 u ku ((vi58.toUInt32.toUInt16.toUInt32.toInt32).toUInt32.toUInt16.toUInt32.toInt32) (0 : Int32) (0 : Int32) (0 : Int32) T72.heap n0 P72 g_b71 gt72 (by rw [own_c vi58 (by omega) (by omega), own_c vi58 (by omega) (by omega), own_c vi65 (by omega) (by omega)]; rw [Int32.lt_iff_toInt_lt]; omega)) hZ (hw _ (List.mem_of_getElem? (i := 33) rfl)) (hw _ (List.mem_of_getElem? (i := 8) rfl)) (by decide) (by decide)) q75a q75c (g := (mkF m 143 #[.val (.int p1), .val (.int p2), .val (.int p3), .val (.int p4), .val (.int p5), .val (.int (2 : Int32)), .val (.int vi58), .val (.int vi60), .val (.int vi62), .val (.int vi64), .val (.int vi65), .val (.int vi66), .val (.int vi67), .val (.int vi65), .val (.ref b71), .unset] [(.int (vi65.toUInt32.toUInt16.toUInt32.toInt32)), (.ref b71)])) rfl (by rw [hml]; rfl) (Steps.refl _) (argsL := [(.int (vi65.toUInt32.toUInt16.toUInt32.toInt32))]) (rest := []) (lenOf pd_9 rfl) rfl (by show 2 * 0 + _ ≤ _; exact Nat.le_of_eq rfl) (hb hby at_143) (fun _ _ => ⟨rfl, rfl, (by decide : 2 + 0 ≤ _), (by decide : 8 + 0 ≤ _)⟩)
      dsimp only [Pt.U, Pt.locs, Pt.cells, Pt.slots] at X75 l75 y75 z75 st75 hQ75
      subst l75 y75 z75
      obtain ⟨rfl, N75q, K75c, P75⟩ := hQ75
      have N75 := Fr.app N72 N75q
      replace X75 : Stand p l e room_1 s m _ below meth c T75 _ 2 8 := X75
      refine own_go (fun t_ k => st75.trans k) ?_
      have K75 : Keep h0 T75.heap [] := K72.trans K75c (allS (Or.inr sz_b71) (allS (Or.inr szt72) all0))
      show WP p e below _ (T75.setTop (mkF m 146 #[.val (.int p1), .val (.int p2), .val (.int p3), .val (.int p4), .val (.int p5), .val (.int (2 : Int32)), .val (.int vi58), .val (.int vi60), .val (.int vi62), .val (.int vi64), .val (.int vi65), .val (.int vi66), .val (.int vi67), .val (.int vi65), .val (.ref b71), .unset] [(.ref b71)]))
      refine own_go (fun t_ k => XS.pop X75.here hx rfl (hb hby at_146) rfl rfl k) ?_
      show WP p e below _ (T75.setTop (mkF m 147 #[.val (.int p1), .val (.int p2), .val (.int p3), .val (.int p4), .val (.int p5), .val (.int (2 : Int32)), .val (.int vi58), .val (.int vi60), .val (.int vi62), .val (.int vi64), .val (.int vi65), .val (.int vi66), .val (.int vi67), .val (.int vi65), .val (.ref b71), .unset] []))
      refine own_go (fun t_ k => XS.iload X75.here hx rfl (hb hby at_147) rfl k) ?_
      show WP p e below _ (T75.setTop (mkF m 149 #[.val (.int p1), .val (.int p2), .val (.int p3), .val (.int p4), .val (.int p5), .val (.int (2 : Int32)), .val (.int vi58), .val (.int vi60), .val (.int vi62), .val (.int vi64), .val (.int vi65), .val (.int vi66), .val (.int vi67), .val (.int vi65), .val (.ref b71), .unset] [(.int (2 : Int32))]))
      refine own_go (fun t_ k => XS.iconst X75.here hx rfl (hb hby at_149) k) ?_
      show WP p e below _ (T75.setTop (mkF m 150 #[.val (.int p1), .val (.int p2), .val (.int p3), .val (.int p4), .val (.int p5), .val (.int (2 : Int32)), .val (.int vi58), .val (.int vi60), .val (.int vi62), .val (.int vi64), .val (.int vi65), .val (.int vi66), .val (.int vi67), .val (.int vi65), .val (.ref b71), .unset] [(.int (3 : Int32)), (.int (2 : Int32))]))
      have hc150_76 : ((2 : Int32) < (3 : Int32)) := by decide
      refine own_go (fun t_ k => XS.icmpYes X75.here hx rfl (pc0 := 150) (pc' := 162) rfl (hb hby at_150) rfl (tlt hc150_76).1 (by decide) (by decide) k) ?_
      show WP p e below _ (T75.setTop (mkF m 162 #[.val (.int p1), .val (.int p2), .val (.int p3), .val (.int p4), .val (.int p5), .val (.int (2 : Int32)), .val (.int vi58), .val (.int vi60), .val (.int vi62), .val (.int vi64), .val (.int vi65), .val (.int vi66), .val (.int vi67), .val (.int vi65), .val (.ref b71), .unset] []))
      refine own_go (fun t_ k => XS.iload X75.here hx rfl (hb hby at_162) rfl k) ?_
      show WP p e below _ (T75.setTop (mkF m 164 #[.val (.int p1), .val (.int p2), .val (.int p3), .val (.int p4), .val (.int p5), .val (.int (2 : Int32)), .val (.int vi58), .val (.int vi60), .val (.int vi62), .val (.int vi64), .val (.int vi65), .val (.int vi66), .val (.int vi67), .val (.int vi65), .val (.ref b71), .unset] [(.int (2 : Int32))]))
      refine own_go (fun t_ k => XS.iconst X75.here hx rfl (hb hby at_164) k) ?_
      show WP p e below _ (T75.setTop (mkF m 165 #[.val (.int p1), .val (.int p2), .val (.int p3), .val (.int p4), .val (.int p5), .val (.int (2 : Int32)), .val (.int vi58), .val (.int vi60), .val (.int vi62), .val (.int vi64), .val (.int vi65), .val (.int vi66), .val (.int vi67), .val (.int vi65), .val (.ref b71), .unset] [(.int (4 : Int32)), (.int (2 : Int32))]))
      have hc165_77 : ((2 : Int32) < (4 : Int32)) := by decide
      refine own_go (fun t_ k => XS.icmpYes X75.here hx rfl (pc0 := 165) (pc' := 177) rfl (hb hby at_165) rfl (tlt hc165_77).1 (by decide) (by decide) k) ?_
      show WP p e below _ (T75.setTop (mkF m 177 #[.val (.int p1), .val (.int p2), .val (.int p3), .val (.int p4), .val (.int p5), .val (.int (2 : Int32)), .val (.int vi58), .val (.int vi60), .val (.int vi62), .val (.int vi64), .val (.int vi65), .val (.int vi66), .val (.int vi67), .val (.int vi65), .val (.ref b71), .unset] []))
      refine own_go (fun t_ k => XS.iload X75.here hx rfl (hb hby at_177) rfl k) ?_
      show WP p e below _ (T75.setTop (mkF m 179 #[.val (.int p1), .val (.int p2), .val (.int p3), .val (.int p4), .val (.int p5), .val (.int (2 : Int32)), .val (.int vi58), .val (.int vi60), .val (.int vi62), .val (.int vi64), .val (.int vi65), .val (.int vi66), .val (.int vi67), .val (.int vi65), .val (.ref b71), .unset] [(.int (2 : Int32))]))
      have hc179_78 : ¬ ((2 : Int32) = (0 : Int32)) := by decide
      refine own_go (fun t_ k => XS.ifYes X75.here hx rfl (pc0 := 179) (pc' := 186) rfl (hb hby at_179) rfl ((if0 _ _).trans (feq hc179_78).2) (by decide) (by decide) k) ?_
      show WP p e below _ (T75.setTop (mkF m 186 #[.val (.int p1), .val (.int p2), .val (.int p3), .val (.int p4), .val (.int p5), .val (.int (2 : Int32)), .val (.int vi58), .val (.int vi60), .val (.int vi62), .val (.int vi64), .val (.int vi65), .val (.int vi66), .val (.int vi67), .val (.int vi65), .val (.ref b71), .unset] []))
      refine own_go (fun t_ k => XS.iconst X75.here hx rfl (hb hby at_186) k) ?_
      show WP p e below _ (T75.setTop (mkF m 187 #[.val (.int p1), .val (.int p2), .val (.int p3), .val (.int p4), .val (.int p5), .val (.int (2 : Int32)), .val (.int vi58), .val (.int vi60), .val (.int vi62), .val (.int vi64), .val (.int vi65), .val (.int vi66), .val (.int vi67), .val (.int vi65), .val (.ref b71), .unset] [(.int (1 : Int32))]))
      refine own_go (fun t_ k => XS.istore X75.here hx rfl (hb hby at_187) rfl (l' := #[.val (.int p1), .val (.int p2), .val (.int p3), .val (.int p4), .val (.int p5), .val (.int (2 : Int32)), .val (.int vi58), .val (.int vi60), .val (.int vi62), .val (.int vi64), .val (.int vi65), .val (.int vi66), .val (.int vi67), .val (.int vi65), .val (.ref b71), .val (.int (1 : Int32))]) rfl k) ?_
      show WP p e below _ (T75.setTop (mkF m 189 #[.val (.int p1), .val (.int p2), .val (.int p3), .val (.int p4), .val (.int p5), .val (.int (2 : Int32)), .val (.int vi58), .val (.int vi60), .val (.int vi62), .val (.int vi64), .val (.int vi65), .val (.int vi66), .val (.int vi67), .val (.int vi65), .val (.ref b71), .val (.int (1 : Int32))] []))
      refine own_go (fun t_ k => XS.iload X75.here hx rfl (hb hby at_189) rfl k) ?_
      show WP p e below _ (T75.setTop (mkF m 191 #[.val (.int p1), .val (.int p2), .val (.int p3), .val (.int p4), .val (.int p5), .val (.int (2 : Int32)), .val (.int vi58), .val (.int vi60), .val (.int vi62), .val (.int vi64), .val (.int vi65), .val (.int vi66), .val (.int vi67), .val (.int vi65), .val (.ref b71), .val (.int (1 : Int32))] [(.int (2 : Int32))]))
      refine own_go (fun t_ k => XS.iconst X75.here hx rfl (hb hby at_191) k) ?_
      show WP p e below _ (T75.setTop (mkF m 192 #[.val (.int p1), .val (.int p2), .val (.int p3), .val (.int p4), .val (.int p5), .val (.int (2 : Int32)), .val (.int vi58), .val (.int vi60), .val (.int vi62), .val (.int vi64), .val (.int vi65), .val (.int vi66), .val (.int vi67), .val (.int vi65), .val (.ref b71), .val (.int (1 : Int32))] [(.int (2 : Int32)), (.int (2 : Int32))]))
      have hc192_79 : ¬ ((2 : Int32) < (2 : Int32)) := by decide
      refine own_go (fun t_ k => XS.icmpNo X75.here hx rfl (hb hby at_192) rfl (flt hc192_79).1 k) ?_
      show WP p e below _ (T75.setTop (mkF m 195 #[.val (.int p1), .val (.int p2), .val (.int p3), .val (.int p4), .val (.int p5), .val (.int (2 : Int32)), .val (.int vi58), .val (.int vi60), .val (.int vi62), .val (.int vi64), .val (.int vi65), .val (.int vi66), .val (.int vi67), .val (.int vi65), .val (.ref b71), .val (.int (1 : Int32))] []))
      refine own_go (fun t_ k => XS.iload X75.here hx rfl (hb hby at_195) rfl k) ?_
      show WP p e below _ (T75.setTop (mkF m 197 #[.val (.int p1), .val (.int p2), .val (.int p3), .val (.int p4), .val (.int p5), .val (.int (2 : Int32)), .val (.int vi58), .val (.int vi60), .val (.int vi62), .val (.int vi64), .val (.int vi65), .val (.int vi66), .val (.int vi67), .val (.int vi65), .val (.ref b71), .val (.int (1 : Int32))] [(.int vi60)]))
      have J82 : ∀ (T82 : State) (ls82 : List Loc) (X82 : Stand p l e room_1 s m #[(.int p1), (.int p2), (.int p3), (.int p4), (.int p5)] below meth c T82 ls82 2 8) (N82 : Fr n0 ls82) (e82 : T82.heap = T75.heap) (z81_L15 : Int32) (hz81_L15 : z81_L15 = (if vi60 = (0 : Int32) then (1 : Int32) else (2 : Int32))), WP p e below (GG (Q0 n0) s room_1.cells room_1.slots) (T82.setTop (mkF m 203 #[.val (.int p1), .val (.int p2), .val (.int p3), .val (.int p4), .val (.int p5), .val (.int (2 : Int32)), .val (.int vi58), .val (.int vi60), .val (.int vi62), .val (.int vi64), .val (.int vi65), .val (.int vi66), .val (.int vi67), .val (.int vi65), .val (.ref b71), .val (.int z81_L15)] [])) := by
        intro T82 ls82 X82 N82 e82 z81_L15 hz81_L15
        show WP p e below _ (T82.setTop (mkF m 203 #[.val (.int p1), .val (.int p2), .val (.int p3), .val (.int p4), .val (.int p5), .val (.int (2 : Int32)), .val (.int vi58), .val (.int vi60), .val (.int vi62), .val (.int vi64), .val (.int vi65), .val (.int vi66), .val (.int vi67), .val (.int vi65), .val (.ref b71), .val (.int z81_L15)] []))
        refine own_go (fun t_ k => XS.iload X82.here hx rfl (hb hby at_203) rfl k) ?_
        show WP p e below _ (T82.setTop (mkF m 205 #[.val (.int p1), .val (.int p2), .val (.int p3), .val (.int p4), .val (.int p5), .val (.int (2 : Int32)), .val (.int vi58), .val (.int vi60), .val (.int vi62), .val (.int vi64), .val (.int vi65), .val (.int vi66), .val (.int vi67), .val (.int vi65), .val (.ref b71), .val (.int z81_L15)] [(.int (2 : Int32))]))
        refine own_go (fun t_ k => XS.iconst X82.here hx rfl (hb hby at_205) k) ?_
        show WP p e below _ (T82.setTop (mkF m 206 #[.val (.int p1), .val (.int p2), .val (.int p3), .val (.int p4), .val (.int p5), .val (.int (2 : Int32)), .val (.int vi58), .val (.int vi60), .val (.int vi62), .val (.int vi64), .val (.int vi65), .val (.int vi66), .val (.int vi67), .val (.int vi65), .val (.ref b71), .val (.int z81_L15)] [(.int (3 : Int32)), (.int (2 : Int32))]))
        have hc206_83 : ((2 : Int32) < (3 : Int32)) := by decide
        refine own_go (fun t_ k => XS.icmpYes X82.here hx rfl (pc0 := 206) (pc' := 217) rfl (hb hby at_206) rfl (tlt hc206_83).1 (by decide) (by decide) k) ?_
        show WP p e below _ (T82.setTop (mkF m 217 #[.val (.int p1), .val (.int p2), .val (.int p3), .val (.int p4), .val (.int p5), .val (.int (2 : Int32)), .val (.int vi58), .val (.int vi60), .val (.int vi62), .val (.int vi64), .val (.int vi65), .val (.int vi66), .val (.int vi67), .val (.int vi65), .val (.ref b71), .val (.int z81_L15)] []))
        refine own_go (fun t_ k => XS.iload X82.here hx rfl (hb hby at_217) rfl k) ?_
        show WP p e below _ (T82.setTop (mkF m 219 #[.val (.int p1), .val (.int p2), .val (.int p3), .val (.int p4), .val (.int p5), .val (.int (2 : Int32)), .val (.int vi58), .val (.int vi60), .val (.int vi62), .val (.int vi64), .val (.int vi65), .val (.int vi66), .val (.int vi67), .val (.int vi65), .val (.ref b71), .val (.int z81_L15)] [(.int (2 : Int32))]))
        refine own_go (fun t_ k => XS.iconst X82.here hx rfl (hb hby at_219) k) ?_
        show WP p e below _ (T82.setTop (mkF m 220 #[.val (.int p1), .val (.int p2), .val (.int p3), .val (.int p4), .val (.int p5), .val (.int (2 : Int32)), .val (.int vi58), .val (.int vi60), .val (.int vi62), .val (.int vi64), .val (.int vi65), .val (.int vi66), .val (.int vi67), .val (.int vi65), .val (.ref b71), .val (.int z81_L15)] [(.int (4 : Int32)), (.int (2 : Int32))]))
        have hc220_84 : ((2 : Int32) < (4 : Int32)) := by decide
        refine own_go (fun t_ k => XS.icmpYes X82.here hx rfl (pc0 := 220) (pc' := 231) rfl (hb hby at_220) rfl (tlt hc220_84).1 (by decide) (by decide) k) ?_
        show WP p e below _ (T82.setTop (mkF m 231 #[.val (.int p1), .val (.int p2), .val (.int p3), .val (.int p4), .val (.int p5), .val (.int (2 : Int32)), .val (.int vi58), .val (.int vi60), .val (.int vi62), .val (.int vi64), .val (.int vi65), .val (.int vi66), .val (.int vi67), .val (.int vi65), .val (.ref b71), .val (.int z81_L15)] []))
        refine own_go (fun t_ k => XS.aload X82.here hx rfl (hb hby at_231) rfl rfl k) ?_
        show WP p e below _ (T82.setTop (mkF m 233 #[.val (.int p1), .val (.int p2), .val (.int p3), .val (.int p4), .val (.int p5), .val (.int (2 : Int32)), .val (.int vi58), .val (.int vi60), .val (.int vi62), .val (.int vi64), .val (.int vi65), .val (.int vi66), .val (.int vi67), .val (.int vi65), .val (.ref b71), .val (.int z81_L15)] [(.ref b71)]))
        obtain ⟨cq85, kq85, q85a, q85b, q85c⟩ := isOf (T := T82) hZ e82 P75.1
        obtain ⟨_, _, ⟨T85, L85, k85, n85⟩, -, X85, ⟨Lc85, hQ85, l85, y85, z85⟩, st85⟩ := X82.virtualBack hx (y := (⟨"com/example/cairn/cairn/ArrayContainer", "runCount", "()I"⟩ : MethodName)) (z := (⟨"com/example/cairn/cairn/ArrayContainer", "runCount", "()I"⟩ : MethodName)) hown (mvT hZ (hw _ (List.mem_of_getElem? (i := 42) rfl))) (mvT hZ (hw _ (List.mem_of_getElem? (i := 43) rfl))) (notFace_of_selects (args := #[]) (mvT hZ (hw _ (List.mem_of_getElem? (i := 45) rfl)))) (mvT hZ (hw _ (List.mem_of_getElem? (i := 45) rfl))) (mvT hZ (hw _ (List.mem_of_getElem? (i := 44) rfl))) (by decide) (backOf (W := 0) (rm_rc2 l Z a0 hw [] b71 t72 kk72 u ku ((vi58.toUInt32.toUInt16.toUInt32.toInt32).toUInt32.toUInt16.toUInt32.toInt32) ((vi65.toUInt32.toUInt16.toUInt32.toInt32).toUInt32.toUInt16.toUInt32.toInt32) (0 : Int32) (0 : Int32) T75.heap n0 P75) hZ (hw _ (List.mem_of_getElem? (i := 46) rfl)) (hw _ (List.mem_of_getElem? (i := 8) rfl)) (by decide) (by decide)) q85a q85c (g := (mkF m 233 #[.val (.int p1), .val (.int p2), .val (.int p3), .val (.int p4), .val (.int p5), .val (.int (2 : Int32)), .val (.int vi58), .val (.int vi60), .val (.int vi62), .val (.int vi64), .val (.int vi65), .val (.int vi66), .val (.int vi67), .val (.int vi65), .val (.ref b71), .val (.int z81_L15)] [(.ref b71)])) rfl (by rw [hml]; rfl) (Steps.refl _) (argsL := []) (rest := []) (lenOf pd_10 rfl) rfl (by show 2 * 0 + _ ≤ _; exact Nat.le_of_eq rfl) (hb hby at_233) (fun _ _ => ⟨rfl, e82, (by decide : 2 + 0 ≤ _), (by decide : 8 + 0 ≤ _)⟩)
        dsimp only [Pt.U, Pt.locs, Pt.cells, Pt.slots] at X85 l85 y85 z85 st85 hQ85
        subst l85 y85 z85
        obtain ⟨rfl, N85q, e85⟩ := hQ85
        have N85 := Fr.app N82 N85q
        replace X85 : Stand p l e room_1 s m _ below meth c T85 _ 2 8 := X85
        refine own_go (fun t_ k => st85.trans k) ?_
        show WP p e below _ (T85.setTop (mkF m 236 #[.val (.int p1), .val (.int p2), .val (.int p3), .val (.int p4), .val (.int p5), .val (.int (2 : Int32)), .val (.int vi58), .val (.int vi60), .val (.int vi62), .val (.int vi64), .val (.int vi65), .val (.int vi66), .val (.int vi67), .val (.int vi65), .val (.ref b71), .val (.int z81_L15)] [(.int (rc2 ((vi58.toUInt32.toUInt16.toUInt32.toInt32).toUInt32.toUInt16.toUInt32.toInt32) ((vi65.toUInt32.toUInt16.toUInt32.toInt32).toUInt32.toUInt16.toUInt32.toInt32) (0 : Int32) (0 : Int32)))]))
        generalize he86 : (rc2 ((vi58.toUInt32.toUInt16.toUInt32.toInt32).toUInt32.toUInt16.toUInt32.toInt32) ((vi65.toUInt32.toUInt16.toUInt32.toInt32).toUInt32.toUInt16.toUInt32.toInt32) (0 : Int32) (0 : Int32)) = vi86
        show WP p e below _ (T85.setTop (mkF m 236 #[.val (.int p1), .val (.int p2), .val (.int p3), .val (.int p4), .val (.int p5), .val (.int (2 : Int32)), .val (.int vi58), .val (.int vi60), .val (.int vi62), .val (.int vi64), .val (.int vi65), .val (.int vi66), .val (.int vi67), .val (.int vi65), .val (.ref b71), .val (.int z81_L15)] [(.int vi86)]))
        refine own_go (fun t_ k => XS.iload X85.here hx rfl (hb hby at_236) rfl k) ?_
        show WP p e below _ (T85.setTop (mkF m 238 #[.val (.int p1), .val (.int p2), .val (.int p3), .val (.int p4), .val (.int p5), .val (.int (2 : Int32)), .val (.int vi58), .val (.int vi60), .val (.int vi62), .val (.int vi64), .val (.int vi65), .val (.int vi66), .val (.int vi67), .val (.int vi65), .val (.ref b71), .val (.int z81_L15)] [(.int z81_L15), (.int vi86)]))
        have J89 : ∀ (T89 : State) (ls89 : List Loc) (X89 : Stand p l e room_1 s m #[(.int p1), (.int p2), (.int p3), (.int p4), (.int p5)] below meth c T89 ls89 2 8) (N89 : Fr n0 ls89) (e89 : T89.heap = T75.heap) (z88_S0 : Int32) (hz88_S0 : z88_S0 = (if vi86 = z81_L15 then (1 : Int32) else (0 : Int32))), WP p e below (GG (Q0 n0) s room_1.cells room_1.slots) (T89.setTop (mkF m 246 #[.val (.int p1), .val (.int p2), .val (.int p3), .val (.int p4), .val (.int p5), .val (.int (2 : Int32)), .val (.int vi58), .val (.int vi60), .val (.int vi62), .val (.int vi64), .val (.int vi65), .val (.int vi66), .val (.int vi67), .val (.int vi65), .val (.ref b71), .val (.int z81_L15)] [(.int z88_S0)])) := by
          intro T89 ls89 X89 N89 e89 z88_S0 hz88_S0
          show WP p e below _ (T89.setTop (mkF m 246 #[.val (.int p1), .val (.int p2), .val (.int p3), .val (.int p4), .val (.int p5), .val (.int (2 : Int32)), .val (.int vi58), .val (.int vi60), .val (.int vi62), .val (.int vi64), .val (.int vi65), .val (.int vi66), .val (.int vi67), .val (.int vi65), .val (.ref b71), .val (.int z81_L15)] [(.int z88_S0)]))
          exact own_retZ X89 hx Bd.notSynchronized Bd.returns (hb hby at_246) (by rw [hz88_S0]; (repeat' split); all_goals first | exact Or.inl rfl | exact Or.inr rfl) (show Q0 n0 _ _ _ from ⟨congrArg (fun z => some (Value.int z)) (own_law_3 (p1 := p1) (p2 := p2) (p3 := p3) (p4 := p4) (p5 := p5) he1 he58 he60 he62 he64 he65 he66 he67 hz81_L15 he86 hz88_S0 hc101_70), N89⟩) (by decide) (by decide)
        by_cases hc238_87 : vi86 = z81_L15
        · refine own_go (fun t_ k => XS.icmpNo X85.here hx rfl (hb hby at_238) rfl (teq hc238_87).2 k) ?_
          show WP p e below _ (T85.setTop (mkF m 241 #[.val (.int p1), .val (.int p2), .val (.int p3), .val (.int p4), .val (.int p5), .val (.int (2 : Int32)), .val (.int vi58), .val (.int vi60), .val (.int vi62), .val (.int vi64), .val (.int vi65), .val (.int vi66), .val (.int vi67), .val (.int vi65), .val (.ref b71), .val (.int z81_L15)] []))
          refine own_go (fun t_ k => XS.iconst X85.here hx rfl (hb hby at_241) k) ?_
          show WP p e below _ (T85.setTop (mkF m 242 #[.val (.int p1), .val (.int p2), .val (.int p3), .val (.int p4), .val (.int p5), .val (.int (2 : Int32)), .val (.int vi58), .val (.int vi60), .val (.int vi62), .val (.int vi64), .val (.int vi65), .val (.int vi66), .val (.int vi67), .val (.int vi65), .val (.ref b71), .val (.int z81_L15)] [(.int (1 : Int32))]))
          refine own_go (fun t_ k => XS.goto X85.here hx rfl (pc0 := 242) (pc' := 246) rfl (hb hby at_242) (by decide) (by decide) k) ?_
          show WP p e below _ (T85.setTop (mkF m 246 #[.val (.int p1), .val (.int p2), .val (.int p3), .val (.int p4), .val (.int p5), .val (.int (2 : Int32)), .val (.int vi58), .val (.int vi60), .val (.int vi62), .val (.int vi64), .val (.int vi65), .val (.int vi66), .val (.int vi67), .val (.int vi65), .val (.ref b71), .val (.int z81_L15)] [(.int (1 : Int32))]))
          exact J89 T85 _ X85 N85 e85 _ (by rw [if_pos hc238_87])
        · refine own_go (fun t_ k => XS.icmpYes X85.here hx rfl (pc0 := 238) (pc' := 245) rfl (hb hby at_238) rfl (feq hc238_87).2 (by decide) (by decide) k) ?_
          show WP p e below _ (T85.setTop (mkF m 245 #[.val (.int p1), .val (.int p2), .val (.int p3), .val (.int p4), .val (.int p5), .val (.int (2 : Int32)), .val (.int vi58), .val (.int vi60), .val (.int vi62), .val (.int vi64), .val (.int vi65), .val (.int vi66), .val (.int vi67), .val (.int vi65), .val (.ref b71), .val (.int z81_L15)] []))
          refine own_go (fun t_ k => XS.iconst X85.here hx rfl (hb hby at_245) k) ?_
          show WP p e below _ (T85.setTop (mkF m 246 #[.val (.int p1), .val (.int p2), .val (.int p3), .val (.int p4), .val (.int p5), .val (.int (2 : Int32)), .val (.int vi58), .val (.int vi60), .val (.int vi62), .val (.int vi64), .val (.int vi65), .val (.int vi66), .val (.int vi67), .val (.int vi65), .val (.ref b71), .val (.int z81_L15)] [(.int (0 : Int32))]))
          exact J89 T85 _ X85 N85 e85 _ (by rw [if_neg hc238_87])
      by_cases hc197_80 : vi60 = (0 : Int32)
      · refine own_go (fun t_ k => XS.ifYes X75.here hx rfl (pc0 := 197) (pc' := 203) rfl (hb hby at_197) rfl ((if0 _ _).trans (teq hc197_80).1) (by decide) (by decide) k) ?_
        show WP p e below _ (T75.setTop (mkF m 203 #[.val (.int p1), .val (.int p2), .val (.int p3), .val (.int p4), .val (.int p5), .val (.int (2 : Int32)), .val (.int vi58), .val (.int vi60), .val (.int vi62), .val (.int vi64), .val (.int vi65), .val (.int vi66), .val (.int vi67), .val (.int vi65), .val (.ref b71), .val (.int (1 : Int32))] []))
        exact J82 T75 _ X75 N75 rfl _ (by rw [if_pos hc197_80])
      · refine own_go (fun t_ k => XS.ifNo X75.here hx rfl (hb hby at_197) rfl ((if0 _ _).trans (feq hc197_80).1) k) ?_
        show WP p e below _ (T75.setTop (mkF m 200 #[.val (.int p1), .val (.int p2), .val (.int p3), .val (.int p4), .val (.int p5), .val (.int (2 : Int32)), .val (.int vi58), .val (.int vi60), .val (.int vi62), .val (.int vi64), .val (.int vi65), .val (.int vi66), .val (.int vi67), .val (.int vi65), .val (.ref b71), .val (.int (1 : Int32))] []))
        refine own_go (fun t_ k => XS.iinc X75.here hx rfl (hb hby at_200) rfl (l' := #[.val (.int p1), .val (.int p2), .val (.int p3), .val (.int p4), .val (.int p5), .val (.int (2 : Int32)), .val (.int vi58), .val (.int vi60), .val (.int vi62), .val (.int vi64), .val (.int vi65), .val (.int vi66), .val (.int vi67), .val (.int vi65), .val (.ref b71), .val (.int (2 : Int32))]) rfl k) ?_
        show WP p e below _ (T75.setTop (mkF m 203 #[.val (.int p1), .val (.int p2), .val (.int p3), .val (.int p4), .val (.int p5), .val (.int (2 : Int32)), .val (.int vi58), .val (.int vi60), .val (.int vi62), .val (.int vi64), .val (.int vi65), .val (.int vi66), .val (.int vi67), .val (.int vi65), .val (.ref b71), .val (.int (2 : Int32))] []))
        exact J82 T75 _ X75 N75 rfl _ (by rw [if_neg hc197_80])
  · subst hs2
    show WP p e below _ (s₁.setTop (mkF m 8 #[.val (.int p1), .val (.int p2), .val (.int p3), .val (.int p4), .val (.int p5), .val (.int (3 : Int32)), .unset, .unset, .unset, .unset, .unset, .unset, .unset, .unset, .unset, .unset] []))
    refine own_go (fun t_ k => XS.iloadN X0.here hx rfl (hb hby at_8) rfl k) ?_
    show WP p e below _ (s₁.setTop (mkF m 9 #[.val (.int p1), .val (.int p2), .val (.int p3), .val (.int p4), .val (.int p5), .val (.int (3 : Int32)), .unset, .unset, .unset, .unset, .unset, .unset, .unset, .unset, .unset, .unset] [(.int p1)]))
    refine own_go (fun t_ k => X0.ldcInt hx hown (mvT hZ (hw _ (List.mem_of_getElem? (i := 1) rfl))) (g := (mkF m 9 #[.val (.int p1), .val (.int p2), .val (.int p3), .val (.int p4), .val (.int p5), .val (.int (3 : Int32)), .unset, .unset, .unset, .unset, .unset, .unset, .unset, .unset, .unset, .unset] [(.int p1)])) rfl (hb hby at_9) _ k) ?_
    show WP p e below _ (s₁.setTop (mkF m 11 #[.val (.int p1), .val (.int p2), .val (.int p3), .val (.int p4), .val (.int p5), .val (.int (3 : Int32)), .unset, .unset, .unset, .unset, .unset, .unset, .unset, .unset, .unset, .unset] [(.int (65535 : Int32)), (.int p1)]))
    refine own_go (fun t_ k => XS.iand X0.here hx rfl (hb hby at_11) rfl k) ?_
    show WP p e below _ (s₁.setTop (mkF m 12 #[.val (.int p1), .val (.int p2), .val (.int p3), .val (.int p4), .val (.int p5), .val (.int (3 : Int32)), .unset, .unset, .unset, .unset, .unset, .unset, .unset, .unset, .unset, .unset] [(.int (p1 &&& (65535 : Int32)))]))
    refine own_go (fun t_ k => XS.istore X0.here hx rfl (hb hby at_12) rfl (l' := #[.val (.int p1), .val (.int p2), .val (.int p3), .val (.int p4), .val (.int p5), .val (.int (3 : Int32)), .val (.int (p1 &&& (65535 : Int32))), .unset, .unset, .unset, .unset, .unset, .unset, .unset, .unset, .unset]) rfl k) ?_
    show WP p e below _ (s₁.setTop (mkF m 14 #[.val (.int p1), .val (.int p2), .val (.int p3), .val (.int p4), .val (.int p5), .val (.int (3 : Int32)), .val (.int (p1 &&& (65535 : Int32))), .unset, .unset, .unset, .unset, .unset, .unset, .unset, .unset, .unset] []))
    generalize he90 : (p1 &&& (65535 : Int32)) = vi90
    show WP p e below _ (s₁.setTop (mkF m 14 #[.val (.int p1), .val (.int p2), .val (.int p3), .val (.int p4), .val (.int p5), .val (.int (3 : Int32)), .val (.int vi90), .unset, .unset, .unset, .unset, .unset, .unset, .unset, .unset, .unset] []))
    refine own_go (fun t_ k => XS.iloadN X0.here hx rfl (hb hby at_14) rfl k) ?_
    show WP p e below _ (s₁.setTop (mkF m 15 #[.val (.int p1), .val (.int p2), .val (.int p3), .val (.int p4), .val (.int p5), .val (.int (3 : Int32)), .val (.int vi90), .unset, .unset, .unset, .unset, .unset, .unset, .unset, .unset, .unset] [(.int p3)]))
    obtain ⟨_, _, ⟨T91, L91, k91, n91⟩, -, X91, ⟨Lc91, hQ91, l91, y91, z91⟩, st91⟩ := Jvm.LawKit.callS X0 hx (y := (⟨"com/example/cairn/cairn/ArrayContainerRunCountPinLaw", "gap", "(I)I"⟩ : MethodName)) hown (mvT hZ (hw _ (List.mem_of_getElem? (i := 2) rfl))) (mvT hZ (hw _ (List.mem_of_getElem? (i := 3) rfl))) (mvT hZ (hw _ (List.mem_of_getElem? (i := 4) rfl))) (mvT hZ (hw _ (List.mem_of_getElem? (i := 5) rfl))) (by decide) (backOf (W := 0) (rm1 l Z a0 hw [] p3 h0 n0) hZ (hw _ (List.mem_of_getElem? (i := 5) rfl)) (hw _ (List.mem_of_getElem? (i := 4) rfl)) (by decide) (by decide)) (g := (mkF m 15 #[.val (.int p1), .val (.int p2), .val (.int p3), .val (.int p4), .val (.int p5), .val (.int (3 : Int32)), .val (.int vi90), .unset, .unset, .unset, .unset, .unset, .unset, .unset, .unset, .unset] [(.int p3)])) rfl (by rw [hml]; rfl) (argsL := [(.int p3)]) (rest := []) (lenOf pd_7 rfl) rfl (by show 2 * 0 + _ ≤ _; exact Nat.le_of_eq rfl) (hb hby at_15) (fun _ _ => ⟨rfl, e0, (by decide : 0 + 0 ≤ _), (by decide : 0 + 0 ≤ _)⟩)
    dsimp only [Pt.U, Pt.locs, Pt.cells, Pt.slots] at X91 l91 y91 z91 st91 hQ91
    subst l91 y91 z91
    obtain ⟨rfl, N91q, e91⟩ := hQ91
    have N91 := Fr.app N0 N91q
    replace X91 : Stand p l e room_1 s m _ below meth c T91 _ 0 0 := X91
    refine own_go st91 ?_
    show WP p e below _ (T91.setTop (mkF m 18 #[.val (.int p1), .val (.int p2), .val (.int p3), .val (.int p4), .val (.int p5), .val (.int (3 : Int32)), .val (.int vi90), .unset, .unset, .unset, .unset, .unset, .unset, .unset, .unset, .unset] [(.int (f1 p3))]))
    generalize he92 : (f1 p3) = vi92
    show WP p e below _ (T91.setTop (mkF m 18 #[.val (.int p1), .val (.int p2), .val (.int p3), .val (.int p4), .val (.int p5), .val (.int (3 : Int32)), .val (.int vi90), .unset, .unset, .unset, .unset, .unset, .unset, .unset, .unset, .unset] [(.int vi92)]))
    refine own_go (fun t_ k => XS.istore X91.here hx rfl (hb hby at_18) rfl (l' := #[.val (.int p1), .val (.int p2), .val (.int p3), .val (.int p4), .val (.int p5), .val (.int (3 : Int32)), .val (.int vi90), .val (.int vi92), .unset, .unset, .unset, .unset, .unset, .unset, .unset, .unset]) rfl k) ?_
    show WP p e below _ (T91.setTop (mkF m 20 #[.val (.int p1), .val (.int p2), .val (.int p3), .val (.int p4), .val (.int p5), .val (.int (3 : Int32)), .val (.int vi90), .val (.int vi92), .unset, .unset, .unset, .unset, .unset, .unset, .unset, .unset] []))
    refine own_go (fun t_ k => XS.iloadN X91.here hx rfl (hb hby at_20) rfl k) ?_
    show WP p e below _ (T91.setTop (mkF m 21 #[.val (.int p1), .val (.int p2), .val (.int p3), .val (.int p4), .val (.int p5), .val (.int (3 : Int32)), .val (.int vi90), .val (.int vi92), .unset, .unset, .unset, .unset, .unset, .unset, .unset, .unset] [(.int p4)]))
    obtain ⟨_, _, ⟨T93, L93, k93, n93⟩, -, X93, ⟨Lc93, hQ93, l93, y93, z93⟩, st93⟩ := Jvm.LawKit.callS X91 hx (y := (⟨"com/example/cairn/cairn/ArrayContainerRunCountPinLaw", "gap", "(I)I"⟩ : MethodName)) hown (mvT hZ (hw _ (List.mem_of_getElem? (i := 2) rfl))) (mvT hZ (hw _ (List.mem_of_getElem? (i := 3) rfl))) (mvT hZ (hw _ (List.mem_of_getElem? (i := 4) rfl))) (mvT hZ (hw _ (List.mem_of_getElem? (i := 5) rfl))) (by decide) (backOf (W := 0) (rm1 l Z a0 hw [] p4 h0 n0) hZ (hw _ (List.mem_of_getElem? (i := 5) rfl)) (hw _ (List.mem_of_getElem? (i := 4) rfl)) (by decide) (by decide)) (g := (mkF m 21 #[.val (.int p1), .val (.int p2), .val (.int p3), .val (.int p4), .val (.int p5), .val (.int (3 : Int32)), .val (.int vi90), .val (.int vi92), .unset, .unset, .unset, .unset, .unset, .unset, .unset, .unset] [(.int p4)])) rfl (by rw [hml]; rfl) (argsL := [(.int p4)]) (rest := []) (lenOf pd_7 rfl) rfl (by show 2 * 0 + _ ≤ _; exact Nat.le_of_eq rfl) (hb hby at_21) (fun _ _ => ⟨rfl, e91, (by decide : 0 + 0 ≤ _), (by decide : 0 + 0 ≤ _)⟩)
    dsimp only [Pt.U, Pt.locs, Pt.cells, Pt.slots] at X93 l93 y93 z93 st93 hQ93
    subst l93 y93 z93
    obtain ⟨rfl, N93q, e93⟩ := hQ93
    have N93 := Fr.app N91 N93q
    replace X93 : Stand p l e room_1 s m _ below meth c T93 _ 0 0 := X93
    refine own_go st93 ?_
    show WP p e below _ (T93.setTop (mkF m 24 #[.val (.int p1), .val (.int p2), .val (.int p3), .val (.int p4), .val (.int p5), .val (.int (3 : Int32)), .val (.int vi90), .val (.int vi92), .unset, .unset, .unset, .unset, .unset, .unset, .unset, .unset] [(.int (f1 p4))]))
    generalize he94 : (f1 p4) = vi94
    show WP p e below _ (T93.setTop (mkF m 24 #[.val (.int p1), .val (.int p2), .val (.int p3), .val (.int p4), .val (.int p5), .val (.int (3 : Int32)), .val (.int vi90), .val (.int vi92), .unset, .unset, .unset, .unset, .unset, .unset, .unset, .unset] [(.int vi94)]))
    refine own_go (fun t_ k => XS.istore X93.here hx rfl (hb hby at_24) rfl (l' := #[.val (.int p1), .val (.int p2), .val (.int p3), .val (.int p4), .val (.int p5), .val (.int (3 : Int32)), .val (.int vi90), .val (.int vi92), .val (.int vi94), .unset, .unset, .unset, .unset, .unset, .unset, .unset]) rfl k) ?_
    show WP p e below _ (T93.setTop (mkF m 26 #[.val (.int p1), .val (.int p2), .val (.int p3), .val (.int p4), .val (.int p5), .val (.int (3 : Int32)), .val (.int vi90), .val (.int vi92), .val (.int vi94), .unset, .unset, .unset, .unset, .unset, .unset, .unset] []))
    refine own_go (fun t_ k => XS.iload X93.here hx rfl (hb hby at_26) rfl k) ?_
    show WP p e below _ (T93.setTop (mkF m 28 #[.val (.int p1), .val (.int p2), .val (.int p3), .val (.int p4), .val (.int p5), .val (.int (3 : Int32)), .val (.int vi90), .val (.int vi92), .val (.int vi94), .unset, .unset, .unset, .unset, .unset, .unset, .unset] [(.int p5)]))
    obtain ⟨_, _, ⟨T95, L95, k95, n95⟩, -, X95, ⟨Lc95, hQ95, l95, y95, z95⟩, st95⟩ := Jvm.LawKit.callS X93 hx (y := (⟨"com/example/cairn/cairn/ArrayContainerRunCountPinLaw", "gap", "(I)I"⟩ : MethodName)) hown (mvT hZ (hw _ (List.mem_of_getElem? (i := 2) rfl))) (mvT hZ (hw _ (List.mem_of_getElem? (i := 3) rfl))) (mvT hZ (hw _ (List.mem_of_getElem? (i := 4) rfl))) (mvT hZ (hw _ (List.mem_of_getElem? (i := 5) rfl))) (by decide) (backOf (W := 0) (rm1 l Z a0 hw [] p5 h0 n0) hZ (hw _ (List.mem_of_getElem? (i := 5) rfl)) (hw _ (List.mem_of_getElem? (i := 4) rfl)) (by decide) (by decide)) (g := (mkF m 28 #[.val (.int p1), .val (.int p2), .val (.int p3), .val (.int p4), .val (.int p5), .val (.int (3 : Int32)), .val (.int vi90), .val (.int vi92), .val (.int vi94), .unset, .unset, .unset, .unset, .unset, .unset, .unset] [(.int p5)])) rfl (by rw [hml]; rfl) (argsL := [(.int p5)]) (rest := []) (lenOf pd_7 rfl) rfl (by show 2 * 0 + _ ≤ _; exact Nat.le_of_eq rfl) (hb hby at_28) (fun _ _ => ⟨rfl, e93, (by decide : 0 + 0 ≤ _), (by decide : 0 + 0 ≤ _)⟩)
    dsimp only [Pt.U, Pt.locs, Pt.cells, Pt.slots] at X95 l95 y95 z95 st95 hQ95
    subst l95 y95 z95
    obtain ⟨rfl, N95q, e95⟩ := hQ95
    have N95 := Fr.app N93 N95q
    replace X95 : Stand p l e room_1 s m _ below meth c T95 _ 0 0 := X95
    refine own_go st95 ?_
    show WP p e below _ (T95.setTop (mkF m 31 #[.val (.int p1), .val (.int p2), .val (.int p3), .val (.int p4), .val (.int p5), .val (.int (3 : Int32)), .val (.int vi90), .val (.int vi92), .val (.int vi94), .unset, .unset, .unset, .unset, .unset, .unset, .unset] [(.int (f1 p5))]))
    generalize he96 : (f1 p5) = vi96
    show WP p e below _ (T95.setTop (mkF m 31 #[.val (.int p1), .val (.int p2), .val (.int p3), .val (.int p4), .val (.int p5), .val (.int (3 : Int32)), .val (.int vi90), .val (.int vi92), .val (.int vi94), .unset, .unset, .unset, .unset, .unset, .unset, .unset] [(.int vi96)]))
    refine own_go (fun t_ k => XS.istore X95.here hx rfl (hb hby at_31) rfl (l' := #[.val (.int p1), .val (.int p2), .val (.int p3), .val (.int p4), .val (.int p5), .val (.int (3 : Int32)), .val (.int vi90), .val (.int vi92), .val (.int vi94), .val (.int vi96), .unset, .unset, .unset, .unset, .unset, .unset]) rfl k) ?_
    show WP p e below _ (T95.setTop (mkF m 33 #[.val (.int p1), .val (.int p2), .val (.int p3), .val (.int p4), .val (.int p5), .val (.int (3 : Int32)), .val (.int vi90), .val (.int vi92), .val (.int vi94), .val (.int vi96), .unset, .unset, .unset, .unset, .unset, .unset] []))
    refine own_go (fun t_ k => XS.iload X95.here hx rfl (hb hby at_33) rfl k) ?_
    show WP p e below _ (T95.setTop (mkF m 35 #[.val (.int p1), .val (.int p2), .val (.int p3), .val (.int p4), .val (.int p5), .val (.int (3 : Int32)), .val (.int vi90), .val (.int vi92), .val (.int vi94), .val (.int vi96), .unset, .unset, .unset, .unset, .unset, .unset] [(.int vi90)]))
    refine own_go (fun t_ k => XS.iconst X95.here hx rfl (hb hby at_35) k) ?_
    show WP p e below _ (T95.setTop (mkF m 36 #[.val (.int p1), .val (.int p2), .val (.int p3), .val (.int p4), .val (.int p5), .val (.int (3 : Int32)), .val (.int vi90), .val (.int vi92), .val (.int vi94), .val (.int vi96), .unset, .unset, .unset, .unset, .unset, .unset] [(.int (1 : Int32)), (.int vi90)]))
    refine own_go (fun t_ k => XS.iadd X95.here hx rfl (hb hby at_36) rfl k) ?_
    show WP p e below _ (T95.setTop (mkF m 37 #[.val (.int p1), .val (.int p2), .val (.int p3), .val (.int p4), .val (.int p5), .val (.int (3 : Int32)), .val (.int vi90), .val (.int vi92), .val (.int vi94), .val (.int vi96), .unset, .unset, .unset, .unset, .unset, .unset] [(.int (vi90 + (1 : Int32)))]))
    refine own_go (fun t_ k => XS.iload X95.here hx rfl (hb hby at_37) rfl k) ?_
    show WP p e below _ (T95.setTop (mkF m 39 #[.val (.int p1), .val (.int p2), .val (.int p3), .val (.int p4), .val (.int p5), .val (.int (3 : Int32)), .val (.int vi90), .val (.int vi92), .val (.int vi94), .val (.int vi96), .unset, .unset, .unset, .unset, .unset, .unset] [(.int vi92), (.int (vi90 + (1 : Int32)))]))
    refine own_go (fun t_ k => XS.iadd X95.here hx rfl (hb hby at_39) rfl k) ?_
    show WP p e below _ (T95.setTop (mkF m 40 #[.val (.int p1), .val (.int p2), .val (.int p3), .val (.int p4), .val (.int p5), .val (.int (3 : Int32)), .val (.int vi90), .val (.int vi92), .val (.int vi94), .val (.int vi96), .unset, .unset, .unset, .unset, .unset, .unset] [(.int ((vi90 + (1 : Int32)) + vi92))]))
    refine own_go (fun t_ k => XS.istore X95.here hx rfl (hb hby at_40) rfl (l' := #[.val (.int p1), .val (.int p2), .val (.int p3), .val (.int p4), .val (.int p5), .val (.int (3 : Int32)), .val (.int vi90), .val (.int vi92), .val (.int vi94), .val (.int vi96), .val (.int ((vi90 + (1 : Int32)) + vi92)), .unset, .unset, .unset, .unset, .unset]) rfl k) ?_
    show WP p e below _ (T95.setTop (mkF m 42 #[.val (.int p1), .val (.int p2), .val (.int p3), .val (.int p4), .val (.int p5), .val (.int (3 : Int32)), .val (.int vi90), .val (.int vi92), .val (.int vi94), .val (.int vi96), .val (.int ((vi90 + (1 : Int32)) + vi92)), .unset, .unset, .unset, .unset, .unset] []))
    generalize he97 : ((vi90 + (1 : Int32)) + vi92) = vi97
    show WP p e below _ (T95.setTop (mkF m 42 #[.val (.int p1), .val (.int p2), .val (.int p3), .val (.int p4), .val (.int p5), .val (.int (3 : Int32)), .val (.int vi90), .val (.int vi92), .val (.int vi94), .val (.int vi96), .val (.int vi97), .unset, .unset, .unset, .unset, .unset] []))
    refine own_go (fun t_ k => XS.iload X95.here hx rfl (hb hby at_42) rfl k) ?_
    show WP p e below _ (T95.setTop (mkF m 44 #[.val (.int p1), .val (.int p2), .val (.int p3), .val (.int p4), .val (.int p5), .val (.int (3 : Int32)), .val (.int vi90), .val (.int vi92), .val (.int vi94), .val (.int vi96), .val (.int vi97), .unset, .unset, .unset, .unset, .unset] [(.int vi97)]))
    refine own_go (fun t_ k => XS.iconst X95.here hx rfl (hb hby at_44) k) ?_
    show WP p e below _ (T95.setTop (mkF m 45 #[.val (.int p1), .val (.int p2), .val (.int p3), .val (.int p4), .val (.int p5), .val (.int (3 : Int32)), .val (.int vi90), .val (.int vi92), .val (.int vi94), .val (.int vi96), .val (.int vi97), .unset, .unset, .unset, .unset, .unset] [(.int (1 : Int32)), (.int vi97)]))
    refine own_go (fun t_ k => XS.iadd X95.here hx rfl (hb hby at_45) rfl k) ?_
    show WP p e below _ (T95.setTop (mkF m 46 #[.val (.int p1), .val (.int p2), .val (.int p3), .val (.int p4), .val (.int p5), .val (.int (3 : Int32)), .val (.int vi90), .val (.int vi92), .val (.int vi94), .val (.int vi96), .val (.int vi97), .unset, .unset, .unset, .unset, .unset] [(.int (vi97 + (1 : Int32)))]))
    refine own_go (fun t_ k => XS.iload X95.here hx rfl (hb hby at_46) rfl k) ?_
    show WP p e below _ (T95.setTop (mkF m 48 #[.val (.int p1), .val (.int p2), .val (.int p3), .val (.int p4), .val (.int p5), .val (.int (3 : Int32)), .val (.int vi90), .val (.int vi92), .val (.int vi94), .val (.int vi96), .val (.int vi97), .unset, .unset, .unset, .unset, .unset] [(.int vi94), (.int (vi97 + (1 : Int32)))]))
    refine own_go (fun t_ k => XS.iadd X95.here hx rfl (hb hby at_48) rfl k) ?_
    show WP p e below _ (T95.setTop (mkF m 49 #[.val (.int p1), .val (.int p2), .val (.int p3), .val (.int p4), .val (.int p5), .val (.int (3 : Int32)), .val (.int vi90), .val (.int vi92), .val (.int vi94), .val (.int vi96), .val (.int vi97), .unset, .unset, .unset, .unset, .unset] [(.int ((vi97 + (1 : Int32)) + vi94))]))
    refine own_go (fun t_ k => XS.istore X95.here hx rfl (hb hby at_49) rfl (l' := #[.val (.int p1), .val (.int p2), .val (.int p3), .val (.int p4), .val (.int p5), .val (.int (3 : Int32)), .val (.int vi90), .val (.int vi92), .val (.int vi94), .val (.int vi96), .val (.int vi97), .val (.int ((vi97 + (1 : Int32)) + vi94)), .unset, .unset, .unset, .unset]) rfl k) ?_
    show WP p e below _ (T95.setTop (mkF m 51 #[.val (.int p1), .val (.int p2), .val (.int p3), .val (.int p4), .val (.int p5), .val (.int (3 : Int32)), .val (.int vi90), .val (.int vi92), .val (.int vi94), .val (.int vi96), .val (.int vi97), .val (.int ((vi97 + (1 : Int32)) + vi94)), .unset, .unset, .unset, .unset] []))
    generalize he98 : ((vi97 + (1 : Int32)) + vi94) = vi98
    show WP p e below _ (T95.setTop (mkF m 51 #[.val (.int p1), .val (.int p2), .val (.int p3), .val (.int p4), .val (.int p5), .val (.int (3 : Int32)), .val (.int vi90), .val (.int vi92), .val (.int vi94), .val (.int vi96), .val (.int vi97), .val (.int vi98), .unset, .unset, .unset, .unset] []))
    refine own_go (fun t_ k => XS.iload X95.here hx rfl (hb hby at_51) rfl k) ?_
    show WP p e below _ (T95.setTop (mkF m 53 #[.val (.int p1), .val (.int p2), .val (.int p3), .val (.int p4), .val (.int p5), .val (.int (3 : Int32)), .val (.int vi90), .val (.int vi92), .val (.int vi94), .val (.int vi96), .val (.int vi97), .val (.int vi98), .unset, .unset, .unset, .unset] [(.int vi98)]))
    refine own_go (fun t_ k => XS.iconst X95.here hx rfl (hb hby at_53) k) ?_
    show WP p e below _ (T95.setTop (mkF m 54 #[.val (.int p1), .val (.int p2), .val (.int p3), .val (.int p4), .val (.int p5), .val (.int (3 : Int32)), .val (.int vi90), .val (.int vi92), .val (.int vi94), .val (.int vi96), .val (.int vi97), .val (.int vi98), .unset, .unset, .unset, .unset] [(.int (1 : Int32)), (.int vi98)]))
    refine own_go (fun t_ k => XS.iadd X95.here hx rfl (hb hby at_54) rfl k) ?_
    show WP p e below _ (T95.setTop (mkF m 55 #[.val (.int p1), .val (.int p2), .val (.int p3), .val (.int p4), .val (.int p5), .val (.int (3 : Int32)), .val (.int vi90), .val (.int vi92), .val (.int vi94), .val (.int vi96), .val (.int vi97), .val (.int vi98), .unset, .unset, .unset, .unset] [(.int (vi98 + (1 : Int32)))]))
    refine own_go (fun t_ k => XS.iload X95.here hx rfl (hb hby at_55) rfl k) ?_
    show WP p e below _ (T95.setTop (mkF m 57 #[.val (.int p1), .val (.int p2), .val (.int p3), .val (.int p4), .val (.int p5), .val (.int (3 : Int32)), .val (.int vi90), .val (.int vi92), .val (.int vi94), .val (.int vi96), .val (.int vi97), .val (.int vi98), .unset, .unset, .unset, .unset] [(.int vi96), (.int (vi98 + (1 : Int32)))]))
    refine own_go (fun t_ k => XS.iadd X95.here hx rfl (hb hby at_57) rfl k) ?_
    show WP p e below _ (T95.setTop (mkF m 58 #[.val (.int p1), .val (.int p2), .val (.int p3), .val (.int p4), .val (.int p5), .val (.int (3 : Int32)), .val (.int vi90), .val (.int vi92), .val (.int vi94), .val (.int vi96), .val (.int vi97), .val (.int vi98), .unset, .unset, .unset, .unset] [(.int ((vi98 + (1 : Int32)) + vi96))]))
    refine own_go (fun t_ k => XS.istore X95.here hx rfl (hb hby at_58) rfl (l' := #[.val (.int p1), .val (.int p2), .val (.int p3), .val (.int p4), .val (.int p5), .val (.int (3 : Int32)), .val (.int vi90), .val (.int vi92), .val (.int vi94), .val (.int vi96), .val (.int vi97), .val (.int vi98), .val (.int ((vi98 + (1 : Int32)) + vi96)), .unset, .unset, .unset]) rfl k) ?_
    show WP p e below _ (T95.setTop (mkF m 60 #[.val (.int p1), .val (.int p2), .val (.int p3), .val (.int p4), .val (.int p5), .val (.int (3 : Int32)), .val (.int vi90), .val (.int vi92), .val (.int vi94), .val (.int vi96), .val (.int vi97), .val (.int vi98), .val (.int ((vi98 + (1 : Int32)) + vi96)), .unset, .unset, .unset] []))
    generalize he99 : ((vi98 + (1 : Int32)) + vi96) = vi99
    show WP p e below _ (T95.setTop (mkF m 60 #[.val (.int p1), .val (.int p2), .val (.int p3), .val (.int p4), .val (.int p5), .val (.int (3 : Int32)), .val (.int vi90), .val (.int vi92), .val (.int vi94), .val (.int vi96), .val (.int vi97), .val (.int vi98), .val (.int vi99), .unset, .unset, .unset] []))
    refine own_go (fun t_ k => XS.iload X95.here hx rfl (hb hby at_60) rfl k) ?_
    show WP p e below _ (T95.setTop (mkF m 62 #[.val (.int p1), .val (.int p2), .val (.int p3), .val (.int p4), .val (.int p5), .val (.int (3 : Int32)), .val (.int vi90), .val (.int vi92), .val (.int vi94), .val (.int vi96), .val (.int vi97), .val (.int vi98), .val (.int vi99), .unset, .unset, .unset] [(.int (3 : Int32))]))
    refine own_go (fun t_ k => XS.iconst X95.here hx rfl (hb hby at_62) k) ?_
    show WP p e below _ (T95.setTop (mkF m 63 #[.val (.int p1), .val (.int p2), .val (.int p3), .val (.int p4), .val (.int p5), .val (.int (3 : Int32)), .val (.int vi90), .val (.int vi92), .val (.int vi94), .val (.int vi96), .val (.int vi97), .val (.int vi98), .val (.int vi99), .unset, .unset, .unset] [(.int (1 : Int32)), (.int (3 : Int32))]))
    have hc63_100 : ((1 : Int32) < (3 : Int32)) := by decide
    refine own_go (fun t_ k => XS.icmpYes X95.here hx rfl (pc0 := 63) (pc' := 71) rfl (hb hby at_63) rfl (tlt hc63_100).2.2.1 (by decide) (by decide) k) ?_
    show WP p e below _ (T95.setTop (mkF m 71 #[.val (.int p1), .val (.int p2), .val (.int p3), .val (.int p4), .val (.int p5), .val (.int (3 : Int32)), .val (.int vi90), .val (.int vi92), .val (.int vi94), .val (.int vi96), .val (.int vi97), .val (.int vi98), .val (.int vi99), .unset, .unset, .unset] []))
    refine own_go (fun t_ k => XS.iload X95.here hx rfl (hb hby at_71) rfl k) ?_
    show WP p e below _ (T95.setTop (mkF m 73 #[.val (.int p1), .val (.int p2), .val (.int p3), .val (.int p4), .val (.int p5), .val (.int (3 : Int32)), .val (.int vi90), .val (.int vi92), .val (.int vi94), .val (.int vi96), .val (.int vi97), .val (.int vi98), .val (.int vi99), .unset, .unset, .unset] [(.int (3 : Int32))]))
    refine own_go (fun t_ k => XS.iconst X95.here hx rfl (hb hby at_73) k) ?_
    show WP p e below _ (T95.setTop (mkF m 74 #[.val (.int p1), .val (.int p2), .val (.int p3), .val (.int p4), .val (.int p5), .val (.int (3 : Int32)), .val (.int vi90), .val (.int vi92), .val (.int vi94), .val (.int vi96), .val (.int vi97), .val (.int vi98), .val (.int vi99), .unset, .unset, .unset] [(.int (2 : Int32)), (.int (3 : Int32))]))
    have hc74_101 : ¬ ((3 : Int32) = (2 : Int32)) := by decide
    refine own_go (fun t_ k => XS.icmpYes X95.here hx rfl (pc0 := 74) (pc' := 82) rfl (hb hby at_74) rfl (feq hc74_101).2 (by decide) (by decide) k) ?_
    show WP p e below _ (T95.setTop (mkF m 82 #[.val (.int p1), .val (.int p2), .val (.int p3), .val (.int p4), .val (.int p5), .val (.int (3 : Int32)), .val (.int vi90), .val (.int vi92), .val (.int vi94), .val (.int vi96), .val (.int vi97), .val (.int vi98), .val (.int vi99), .unset, .unset, .unset] []))
    refine own_go (fun t_ k => XS.iload X95.here hx rfl (hb hby at_82) rfl k) ?_
    show WP p e below _ (T95.setTop (mkF m 84 #[.val (.int p1), .val (.int p2), .val (.int p3), .val (.int p4), .val (.int p5), .val (.int (3 : Int32)), .val (.int vi90), .val (.int vi92), .val (.int vi94), .val (.int vi96), .val (.int vi97), .val (.int vi98), .val (.int vi99), .unset, .unset, .unset] [(.int (3 : Int32))]))
    refine own_go (fun t_ k => XS.iconst X95.here hx rfl (hb hby at_84) k) ?_
    show WP p e below _ (T95.setTop (mkF m 85 #[.val (.int p1), .val (.int p2), .val (.int p3), .val (.int p4), .val (.int p5), .val (.int (3 : Int32)), .val (.int vi90), .val (.int vi92), .val (.int vi94), .val (.int vi96), .val (.int vi97), .val (.int vi98), .val (.int vi99), .unset, .unset, .unset] [(.int (3 : Int32)), (.int (3 : Int32))]))
    have hc85_102 : ((3 : Int32) = (3 : Int32)) := by decide
    refine own_go (fun t_ k => XS.icmpNo X95.here hx rfl (hb hby at_85) rfl (teq hc85_102).2 k) ?_
    show WP p e below _ (T95.setTop (mkF m 88 #[.val (.int p1), .val (.int p2), .val (.int p3), .val (.int p4), .val (.int p5), .val (.int (3 : Int32)), .val (.int vi90), .val (.int vi92), .val (.int vi94), .val (.int vi96), .val (.int vi97), .val (.int vi98), .val (.int vi99), .unset, .unset, .unset] []))
    refine own_go (fun t_ k => XS.iload X95.here hx rfl (hb hby at_88) rfl k) ?_
    show WP p e below _ (T95.setTop (mkF m 90 #[.val (.int p1), .val (.int p2), .val (.int p3), .val (.int p4), .val (.int p5), .val (.int (3 : Int32)), .val (.int vi90), .val (.int vi92), .val (.int vi94), .val (.int vi96), .val (.int vi97), .val (.int vi98), .val (.int vi99), .unset, .unset, .unset] [(.int vi98)]))
    refine own_go (fun t_ k => XS.goto X95.here hx rfl (pc0 := 90) (pc' := 95) rfl (hb hby at_90) (by decide) (by decide) k) ?_
    show WP p e below _ (T95.setTop (mkF m 95 #[.val (.int p1), .val (.int p2), .val (.int p3), .val (.int p4), .val (.int p5), .val (.int (3 : Int32)), .val (.int vi90), .val (.int vi92), .val (.int vi94), .val (.int vi96), .val (.int vi97), .val (.int vi98), .val (.int vi99), .unset, .unset, .unset] [(.int vi98)]))
    refine own_go (fun t_ k => XS.istore X95.here hx rfl (hb hby at_95) rfl (l' := #[.val (.int p1), .val (.int p2), .val (.int p3), .val (.int p4), .val (.int p5), .val (.int (3 : Int32)), .val (.int vi90), .val (.int vi92), .val (.int vi94), .val (.int vi96), .val (.int vi97), .val (.int vi98), .val (.int vi99), .val (.int vi98), .unset, .unset]) rfl k) ?_
    show WP p e below _ (T95.setTop (mkF m 97 #[.val (.int p1), .val (.int p2), .val (.int p3), .val (.int p4), .val (.int p5), .val (.int (3 : Int32)), .val (.int vi90), .val (.int vi92), .val (.int vi94), .val (.int vi96), .val (.int vi97), .val (.int vi98), .val (.int vi99), .val (.int vi98), .unset, .unset] []))
    refine own_go (fun t_ k => XS.iload X95.here hx rfl (hb hby at_97) rfl k) ?_
    show WP p e below _ (T95.setTop (mkF m 99 #[.val (.int p1), .val (.int p2), .val (.int p3), .val (.int p4), .val (.int p5), .val (.int (3 : Int32)), .val (.int vi90), .val (.int vi92), .val (.int vi94), .val (.int vi96), .val (.int vi97), .val (.int vi98), .val (.int vi99), .val (.int vi98), .unset, .unset] [(.int vi98)]))
    refine own_go (fun t_ k => X95.ldcInt hx hown (mvT hZ (hw _ (List.mem_of_getElem? (i := 1) rfl))) (g := (mkF m 99 #[.val (.int p1), .val (.int p2), .val (.int p3), .val (.int p4), .val (.int p5), .val (.int (3 : Int32)), .val (.int vi90), .val (.int vi92), .val (.int vi94), .val (.int vi96), .val (.int vi97), .val (.int vi98), .val (.int vi99), .val (.int vi98), .unset, .unset] [(.int vi98)])) rfl (hb hby at_99) _ k) ?_
    show WP p e below _ (T95.setTop (mkF m 101 #[.val (.int p1), .val (.int p2), .val (.int p3), .val (.int p4), .val (.int p5), .val (.int (3 : Int32)), .val (.int vi90), .val (.int vi92), .val (.int vi94), .val (.int vi96), .val (.int vi97), .val (.int vi98), .val (.int vi99), .val (.int vi98), .unset, .unset] [(.int (65535 : Int32)), (.int vi98)]))
    by_cases hc101_103 : (65535 : Int32) < vi98
    · refine own_go (fun t_ k => XS.icmpNo X95.here hx rfl (hb hby at_101) rfl (tlt hc101_103).2.2.2 k) ?_
      show WP p e below _ (T95.setTop (mkF m 104 #[.val (.int p1), .val (.int p2), .val (.int p3), .val (.int p4), .val (.int p5), .val (.int (3 : Int32)), .val (.int vi90), .val (.int vi92), .val (.int vi94), .val (.int vi96), .val (.int vi97), .val (.int vi98), .val (.int vi99), .val (.int vi98), .unset, .unset] []))
      refine own_go (fun t_ k => XS.iconst X95.here hx rfl (hb hby at_104) k) ?_
      show WP p e below _ (T95.setTop (mkF m 105 #[.val (.int p1), .val (.int p2), .val (.int p3), .val (.int p4), .val (.int p5), .val (.int (3 : Int32)), .val (.int vi90), .val (.int vi92), .val (.int vi94), .val (.int vi96), .val (.int vi97), .val (.int vi98), .val (.int vi99), .val (.int vi98), .unset, .unset] [(.int (1 : Int32))]))
      exact own_retZ X95 hx Bd.notSynchronized Bd.returns (hb hby at_105) (by decide) (show Q0 n0 _ _ _ from ⟨rfl, N95⟩) (by decide) (by decide)
    · refine own_go (fun t_ k => XS.icmpYes X95.here hx rfl (pc0 := 101) (pc' := 106) rfl (hb hby at_101) rfl (flt hc101_103).2.2.2 (by decide) (by decide) k) ?_
      have bv0 := own_v0 he90
      have bd1 := own_gap he92
      have bv1 := own_next (by omega) (by omega) bd1 he97
      have bd2 := own_gap he94
      have bv2 := own_next (by omega) (by omega) bd2 he98
      have bd3 := own_gap he96
      have bv3 := own_next (by omega) (by omega) bd3 he99
      have bl := hc101_103
      rw [Int32.lt_iff_toInt_lt, show (65535 : Int32).toInt = 65535 from rfl] at bl
      show WP p e below _ (T95.setTop (mkF m 106 #[.val (.int p1), .val (.int p2), .val (.int p3), .val (.int p4), .val (.int p5), .val (.int (3 : Int32)), .val (.int vi90), .val (.int vi92), .val (.int vi94), .val (.int vi96), .val (.int vi97), .val (.int vi98), .val (.int vi99), .val (.int vi98), .unset, .unset] []))
      obtain ⟨T104, h104, X104, e104, E104, A104, D104, -, st104⟩ := newO X95 hx hZ hown (hw _ (List.mem_of_getElem? (i := 6) rfl)) (hw _ (List.mem_of_getElem? (i := 7) rfl)) (hw _ (List.mem_of_getElem? (i := 8) rfl)) e95 (g := (mkF m 106 #[.val (.int p1), .val (.int p2), .val (.int p3), .val (.int p4), .val (.int p5), .val (.int (3 : Int32)), .val (.int vi90), .val (.int vi92), .val (.int vi94), .val (.int vi96), .val (.int vi97), .val (.int vi98), .val (.int vi99), .val (.int vi98), .unset, .unset] [])) rfl (hb hby at_106) (by decide) (by decide)
      obtain ⟨b104, g104⟩ : ∃ z, z = Array.size h0 := ⟨_, rfl⟩
      rw [← g104] at A104 D104 st104
      refine own_go st104 ?_
      have g_b104 : n0 ≤ b104 := Nat.le_trans (Nat.le_trans Z0 (Keep.refl h0 []).1) (Nat.le_of_eq g104.symm)
      have sz_b104 : h0.size ≤ b104 := Nat.le_trans (Keep.refl h0 []).1 (Nat.le_of_eq g104.symm)
      have ne_u_b104 : u ≠ b104 := Nat.ne_of_lt (Nat.lt_of_lt_of_le V_u.lt (Nat.le_of_eq g104.symm))
      have K104 : Keep h0 h104 [] := (Keep.refl h0 []).ext E104
      have F104_occupiedWords : Fld Z h104 b104 "com/example/cairn/cairn/ArrayContainer" "occupiedWords" "[J" .null := D104 (Or.inl (hw _ (List.mem_of_getElem? (i := 23) rfl))) (ty := (.array .long)) (by decide)
      have F104_values : Fld Z h104 b104 "com/example/cairn/cairn/ArrayContainer" "values" "[C" .null := D104 (Or.inl (hw _ (List.mem_of_getElem? (i := 26) rfl))) (ty := (.array .char)) (by decide)
      have F104_cardinality : Fld Z h104 b104 "com/example/cairn/cairn/ArrayContainer" "cardinality" "C" (.int (0 : Int32)) := D104 (Or.inl (hw _ (List.mem_of_getElem? (i := 28) rfl))) (ty := .char) (by decide)
      have F104_shared : Fld Z h104 b104 "com/example/cairn/cairn/Container" "shared" "Z" (.int (0 : Int32)) := D104 (Or.inl (hw _ (List.mem_of_getElem? (i := 41) rfl))) (ty := .boolean) (by decide)
      show WP p e below _ (T104.setTop (mkF m 109 #[.val (.int p1), .val (.int p2), .val (.int p3), .val (.int p4), .val (.int p5), .val (.int (3 : Int32)), .val (.int vi90), .val (.int vi92), .val (.int vi94), .val (.int vi96), .val (.int vi97), .val (.int vi98), .val (.int vi99), .val (.int vi98), .unset, .unset] [(.ref b104)]))
      refine own_go (fun t_ k => XS.dup X104.here hx rfl (hb hby at_109) rfl rfl k) ?_
      show WP p e below _ (T104.setTop (mkF m 110 #[.val (.int p1), .val (.int p2), .val (.int p3), .val (.int p4), .val (.int p5), .val (.int (3 : Int32)), .val (.int vi90), .val (.int vi92), .val (.int vi94), .val (.int vi96), .val (.int vi97), .val (.int vi98), .val (.int vi99), .val (.int vi98), .unset, .unset] [(.ref b104), (.ref b104)]))
      refine own_go (fun t_ k => XS.iload X104.here hx rfl (hb hby at_110) rfl k) ?_
      show WP p e below _ (T104.setTop (mkF m 112 #[.val (.int p1), .val (.int p2), .val (.int p3), .val (.int p4), .val (.int p5), .val (.int (3 : Int32)), .val (.int vi90), .val (.int vi92), .val (.int vi94), .val (.int vi96), .val (.int vi97), .val (.int vi98), .val (.int vi99), .val (.int vi98), .unset, .unset] [(.int vi90), (.ref b104), (.ref b104)]))
      refine own_go (fun t_ k => XS.i2c X104.here hx rfl (hb hby at_112) rfl k) ?_
      show WP p e below _ (T104.setTop (mkF m 113 #[.val (.int p1), .val (.int p2), .val (.int p3), .val (.int p4), .val (.int p5), .val (.int (3 : Int32)), .val (.int vi90), .val (.int vi92), .val (.int vi94), .val (.int vi96), .val (.int vi97), .val (.int vi98), .val (.int vi99), .val (.int vi98), .unset, .unset] [(.int (vi90.toUInt32.toUInt16.toUInt32.toInt32)), (.ref b104), (.ref b104)]))
      obtain ⟨_, _, ⟨T105, L105, k105, n105⟩, -, X105, ⟨Lc105, hQ105, l105, y105, z105⟩, st105⟩ := X104.specialBack hx (y := (⟨"com/example/cairn/cairn/ArrayContainer", "<init>", "(C)V"⟩ : MethodName)) rfl hown (mvT hZ (hw _ (List.mem_of_getElem? (i := 9) rfl))) (mvT hZ (hw _ (List.mem_of_getElem? (i := 10) rfl))) (mvT hZ (hw _ (List.mem_of_getElem? (i := 11) rfl))) (by decide) (backOf (W := 1) (rm2 l Z a0 hw [] b104 (vi90.toUInt32.toUInt16.toUInt32.toInt32) u ku h104 n0 (Nat.le_trans Z0 K104.1) A104 g_b104 F104_values F104_cardinality F104_occupiedWords F104_shared (S_u.ext E104) (V_u.ext E104) ne_u_b104) hZ (hw _ (List.mem_of_getElem? (i := 11) rfl)) (hw _ (List.mem_of_getElem? (i := 8) rfl)) (by decide) (by decide)) (g := (mkF m 113 #[.val (.int p1), .val (.int p2), .val (.int p3), .val (.int p4), .val (.int p5), .val (.int (3 : Int32)), .val (.int vi90), .val (.int vi92), .val (.int vi94), .val (.int vi96), .val (.int vi97), .val (.int vi98), .val (.int vi99), .val (.int vi98), .unset, .unset] [(.int (vi90.toUInt32.toUInt16.toUInt32.toInt32)), (.ref b104), (.ref b104)])) rfl (by rw [hml]; rfl) (Steps.refl _) (a := b104) (argsL := [(.int (vi90.toUInt32.toUInt16.toUInt32.toInt32))]) (rest := [(.ref b104)]) (lenOf pd_8 rfl) rfl (by show 2 * 0 + _ ≤ _; exact Nat.le_of_eq rfl) (hb hby at_113) (fun _ _ => ⟨rfl, e104, (by decide : 1 + 1 ≤ _), (by decide : 4 + 4 ≤ _)⟩)
      dsimp only [Pt.U, Pt.locs, Pt.cells, Pt.slots] at X105 l105 y105 z105 st105 hQ105
      subst l105 y105 z105
      obtain ⟨rfl, N105q, K105c, t105, kk105, gt105, szt105', P105⟩ := hQ105
      have N105 := Fr.app N95 N105q
      replace X105 : Stand p l e room_1 s m _ below meth c T105 _ 2 8 := X105
      refine own_go (fun t_ k => st105.trans k) ?_
      have K105 : Keep h0 T105.heap [] := K104.trans K105c (allS (Or.inr sz_b104) all0)
      have szt105 : h0.size ≤ t105 := Nat.le_trans K104.1 szt105'
      show WP p e below _ (T105.setTop (mkF m 116 #[.val (.int p1), .val (.int p2), .val (.int p3), .val (.int p4), .val (.int p5), .val (.int (3 : Int32)), .val (.int vi90), .val (.int vi92), .val (.int vi94), .val (.int vi96), .val (.int vi97), .val (.int vi98), .val (.int vi99), .val (.int vi98), .unset, .unset] [(.ref b104)]))
      refine own_go (fun t_ k => XS.astore X105.here hx rfl (hb hby at_116) rfl rfl (l' := #[.val (.int p1), .val (.int p2), .val (.int p3), .val (.int p4), .val (.int p5), .val (.int (3 : Int32)), .val (.int vi90), .val (.int vi92), .val (.int vi94), .val (.int vi96), .val (.int vi97), .val (.int vi98), .val (.int vi99), .val (.int vi98), .val (.ref b104), .unset]) rfl k) ?_
      show WP p e below _ (T105.setTop (mkF m 118 #[.val (.int p1), .val (.int p2), .val (.int p3), .val (.int p4), .val (.int p5), .val (.int (3 : Int32)), .val (.int vi90), .val (.int vi92), .val (.int vi94), .val (.int vi96), .val (.int vi97), .val (.int vi98), .val (.int vi99), .val (.int vi98), .val (.ref b104), .unset] []))
      refine own_go (fun t_ k => XS.iload X105.here hx rfl (hb hby at_118) rfl k) ?_
      show WP p e below _ (T105.setTop (mkF m 120 #[.val (.int p1), .val (.int p2), .val (.int p3), .val (.int p4), .val (.int p5), .val (.int (3 : Int32)), .val (.int vi90), .val (.int vi92), .val (.int vi94), .val (.int vi96), .val (.int vi97), .val (.int vi98), .val (.int vi99), .val (.int vi98), .val (.ref b104), .unset] [(.int (3 : Int32))]))
      have hc120_106 : ¬ ((3 : Int32) = (0 : Int32)) := by decide
      refine own_go (fun t_ k => XS.ifYes X105.here hx rfl (pc0 := 120) (pc' := 132) rfl (hb hby at_120) rfl ((if0 _ _).trans (feq hc120_106).2) (by decide) (by decide) k) ?_
      show WP p e below _ (T105.setTop (mkF m 132 #[.val (.int p1), .val (.int p2), .val (.int p3), .val (.int p4), .val (.int p5), .val (.int (3 : Int32)), .val (.int vi90), .val (.int vi92), .val (.int vi94), .val (.int vi96), .val (.int vi97), .val (.int vi98), .val (.int vi99), .val (.int vi98), .val (.ref b104), .unset] []))
      refine own_go (fun t_ k => XS.iload X105.here hx rfl (hb hby at_132) rfl k) ?_
      show WP p e below _ (T105.setTop (mkF m 134 #[.val (.int p1), .val (.int p2), .val (.int p3), .val (.int p4), .val (.int p5), .val (.int (3 : Int32)), .val (.int vi90), .val (.int vi92), .val (.int vi94), .val (.int vi96), .val (.int vi97), .val (.int vi98), .val (.int vi99), .val (.int vi98), .val (.ref b104), .unset] [(.int (3 : Int32))]))
      refine own_go (fun t_ k => XS.iconst X105.here hx rfl (hb hby at_134) k) ?_
      show WP p e below _ (T105.setTop (mkF m 135 #[.val (.int p1), .val (.int p2), .val (.int p3), .val (.int p4), .val (.int p5), .val (.int (3 : Int32)), .val (.int vi90), .val (.int vi92), .val (.int vi94), .val (.int vi96), .val (.int vi97), .val (.int vi98), .val (.int vi99), .val (.int vi98), .val (.ref b104), .unset] [(.int (2 : Int32)), (.int (3 : Int32))]))
      have hc135_107 : ¬ ((3 : Int32) < (2 : Int32)) := by decide
      refine own_go (fun t_ k => XS.icmpNo X105.here hx rfl (hb hby at_135) rfl (flt hc135_107).1 k) ?_
      show WP p e below _ (T105.setTop (mkF m 138 #[.val (.int p1), .val (.int p2), .val (.int p3), .val (.int p4), .val (.int p5), .val (.int (3 : Int32)), .val (.int vi90), .val (.int vi92), .val (.int vi94), .val (.int vi96), .val (.int vi97), .val (.int vi98), .val (.int vi99), .val (.int vi98), .val (.ref b104), .unset] []))
      refine own_go (fun t_ k => XS.aload X105.here hx rfl (hb hby at_138) rfl rfl k) ?_
      show WP p e below _ (T105.setTop (mkF m 140 #[.val (.int p1), .val (.int p2), .val (.int p3), .val (.int p4), .val (.int p5), .val (.int (3 : Int32)), .val (.int vi90), .val (.int vi92), .val (.int vi94), .val (.int vi96), .val (.int vi97), .val (.int vi98), .val (.int vi99), .val (.int vi98), .val (.ref b104), .unset] [(.ref b104)]))
      refine own_go (fun t_ k => XS.iload X105.here hx rfl (hb hby at_140) rfl k) ?_
      show WP p e below _ (T105.setTop (mkF m 142 #[.val (.int p1), .val (.int p2), .val (.int p3), .val (.int p4), .val (.int p5), .val (.int (3 : Int32)), .val (.int vi90), .val (.int vi92), .val (.int vi94), .val (.int vi96), .val (.int vi97), .val (.int vi98), .val (.int vi99), .val (.int vi98), .val (.ref b104), .unset] [(.int vi97), (.ref b104)]))
      refine own_go (fun t_ k => XS.i2c X105.here hx rfl (hb hby at_142) rfl k) ?_
      show WP p e below _ (T105.setTop (mkF m 143 #[.val (.int p1), .val (.int p2), .val (.int p3), .val (.int p4), .val (.int p5), .val (.int (3 : Int32)), .val (.int vi90), .val (.int vi92), .val (.int vi94), .val (.int vi96), .val (.int vi97), .val (.int vi98), .val (.int vi99), .val (.int vi98), .val (.ref b104), .unset] [(.int (vi97.toUInt32.toUInt16.toUInt32.toInt32)), (.ref b104)]))
      obtain ⟨cq108, kq108, q108a, q108b, q108c⟩ := isOf (T := T105) hZ rfl P105.1
      obtain ⟨_, _, ⟨T108, L108, k108, n108⟩, -, X108, ⟨Lc108, hQ108, l108, y108, z108⟩, st108⟩ := X105.virtualBack hx (y := (⟨"com/example/cairn/cairn/ArrayContainer", "add", "(C)Lcom/example/cairn/cairn/Container;"⟩ : MethodName)) (z := (⟨"com/example/cairn/cairn/ArrayContainer", "add", "(C)Lcom/example/cairn/cairn/Container;"⟩ : MethodName)) hown (mvT hZ (hw _ (List.mem_of_getElem? (i := 29) rfl))) (mvT hZ (hw _ (List.mem_of_getElem? (i := 30) rfl))) (notFace_of_selects (args := #[]) (mvT hZ (hw _ (List.mem_of_getElem? (i := 32) rfl)))) (mvT hZ (hw _ (List.mem_of_getElem? (i := 32) rfl))) (mvT hZ (hw _ (List.mem_of_getElem? (i := 31) rfl))) (by decide) (backOf (W := 0) (rm_a1 l Z a0 hw [] b104 (vi97.toUInt32.toUInt16.toUInt32.toInt32) t105 kk105 u ku ((vi90.toUInt32.toUInt16.toUInt32.toInt32).toUInt32.toUInt16.toUInt32.toInt32) (0 : Int32) (0 : Int32) (0 : Int32) T105.heap n0 P105 g_b104 gt105 (by rw [own_c vi90 (by omega) (by omega), own_c vi90 (by omega) (by omega), own_c vi97 (by omega) (by omega)]; rw [Int32.lt_iff_toInt_lt]; omega)) hZ (hw _ (List.mem_of_getElem? (i := 33) rfl)) (hw _ (List.mem_of_getElem? (i := 8) rfl)) (by decide) (by decide)) q108a q108c (g := (mkF m 143 #[.val (.int p1), .val (.int p2), .val (.int p3), .val (.int p4), .val (.int p5), .val (.int (3 : Int32)), .val (.int vi90), .val (.int vi92), .val (.int vi94), .val (.int vi96), .val (.int vi97), .val (.int vi98), .val (.int vi99), .val (.int vi98), .val (.ref b104), .unset] [(.int (vi97.toUInt32.toUInt16.toUInt32.toInt32)), (.ref b104)])) rfl (by rw [hml]; rfl) (Steps.refl _) (argsL := [(.int (vi97.toUInt32.toUInt16.toUInt32.toInt32))]) (rest := []) (lenOf pd_9 rfl) rfl (by show 2 * 0 + _ ≤ _; exact Nat.le_of_eq rfl) (hb hby at_143) (fun _ _ => ⟨rfl, rfl, (by decide : 2 + 0 ≤ _), (by decide : 8 + 0 ≤ _)⟩)
      dsimp only [Pt.U, Pt.locs, Pt.cells, Pt.slots] at X108 l108 y108 z108 st108 hQ108
      subst l108 y108 z108
      obtain ⟨rfl, N108q, K108c, P108⟩ := hQ108
      have N108 := Fr.app N105 N108q
      replace X108 : Stand p l e room_1 s m _ below meth c T108 _ 2 8 := X108
      refine own_go (fun t_ k => st108.trans k) ?_
      have K108 : Keep h0 T108.heap [] := K105.trans K108c (allS (Or.inr sz_b104) (allS (Or.inr szt105) all0))
      show WP p e below _ (T108.setTop (mkF m 146 #[.val (.int p1), .val (.int p2), .val (.int p3), .val (.int p4), .val (.int p5), .val (.int (3 : Int32)), .val (.int vi90), .val (.int vi92), .val (.int vi94), .val (.int vi96), .val (.int vi97), .val (.int vi98), .val (.int vi99), .val (.int vi98), .val (.ref b104), .unset] [(.ref b104)]))
      refine own_go (fun t_ k => XS.pop X108.here hx rfl (hb hby at_146) rfl rfl k) ?_
      show WP p e below _ (T108.setTop (mkF m 147 #[.val (.int p1), .val (.int p2), .val (.int p3), .val (.int p4), .val (.int p5), .val (.int (3 : Int32)), .val (.int vi90), .val (.int vi92), .val (.int vi94), .val (.int vi96), .val (.int vi97), .val (.int vi98), .val (.int vi99), .val (.int vi98), .val (.ref b104), .unset] []))
      refine own_go (fun t_ k => XS.iload X108.here hx rfl (hb hby at_147) rfl k) ?_
      show WP p e below _ (T108.setTop (mkF m 149 #[.val (.int p1), .val (.int p2), .val (.int p3), .val (.int p4), .val (.int p5), .val (.int (3 : Int32)), .val (.int vi90), .val (.int vi92), .val (.int vi94), .val (.int vi96), .val (.int vi97), .val (.int vi98), .val (.int vi99), .val (.int vi98), .val (.ref b104), .unset] [(.int (3 : Int32))]))
      refine own_go (fun t_ k => XS.iconst X108.here hx rfl (hb hby at_149) k) ?_
      show WP p e below _ (T108.setTop (mkF m 150 #[.val (.int p1), .val (.int p2), .val (.int p3), .val (.int p4), .val (.int p5), .val (.int (3 : Int32)), .val (.int vi90), .val (.int vi92), .val (.int vi94), .val (.int vi96), .val (.int vi97), .val (.int vi98), .val (.int vi99), .val (.int vi98), .val (.ref b104), .unset] [(.int (3 : Int32)), (.int (3 : Int32))]))
      have hc150_109 : ¬ ((3 : Int32) < (3 : Int32)) := by decide
      refine own_go (fun t_ k => XS.icmpNo X108.here hx rfl (hb hby at_150) rfl (flt hc150_109).1 k) ?_
      show WP p e below _ (T108.setTop (mkF m 153 #[.val (.int p1), .val (.int p2), .val (.int p3), .val (.int p4), .val (.int p5), .val (.int (3 : Int32)), .val (.int vi90), .val (.int vi92), .val (.int vi94), .val (.int vi96), .val (.int vi97), .val (.int vi98), .val (.int vi99), .val (.int vi98), .val (.ref b104), .unset] []))
      refine own_go (fun t_ k => XS.aload X108.here hx rfl (hb hby at_153) rfl rfl k) ?_
      show WP p e below _ (T108.setTop (mkF m 155 #[.val (.int p1), .val (.int p2), .val (.int p3), .val (.int p4), .val (.int p5), .val (.int (3 : Int32)), .val (.int vi90), .val (.int vi92), .val (.int vi94), .val (.int vi96), .val (.int vi97), .val (.int vi98), .val (.int vi99), .val (.int vi98), .val (.ref b104), .unset] [(.ref b104)]))
      refine own_go (fun t_ k => XS.iload X108.here hx rfl (hb hby at_155) rfl k) ?_
      show WP p e below _ (T108.setTop (mkF m 157 #[.val (.int p1), .val (.int p2), .val (.int p3), .val (.int p4), .val (.int p5), .val (.int (3 : Int32)), .val (.int vi90), .val (.int vi92), .val (.int vi94), .val (.int vi96), .val (.int vi97), .val (.int vi98), .val (.int vi99), .val (.int vi98), .val (.ref b104), .unset] [(.int vi98), (.ref b104)]))
      refine own_go (fun t_ k => XS.i2c X108.here hx rfl (hb hby at_157) rfl k) ?_
      show WP p e below _ (T108.setTop (mkF m 158 #[.val (.int p1), .val (.int p2), .val (.int p3), .val (.int p4), .val (.int p5), .val (.int (3 : Int32)), .val (.int vi90), .val (.int vi92), .val (.int vi94), .val (.int vi96), .val (.int vi97), .val (.int vi98), .val (.int vi99), .val (.int vi98), .val (.ref b104), .unset] [(.int (vi98.toUInt32.toUInt16.toUInt32.toInt32)), (.ref b104)]))
      obtain ⟨cq110, kq110, q110a, q110b, q110c⟩ := isOf (T := T108) hZ rfl P108.1
      obtain ⟨_, _, ⟨T110, L110, k110, n110⟩, -, X110, ⟨Lc110, hQ110, l110, y110, z110⟩, st110⟩ := X108.virtualBack hx (y := (⟨"com/example/cairn/cairn/ArrayContainer", "add", "(C)Lcom/example/cairn/cairn/Container;"⟩ : MethodName)) (z := (⟨"com/example/cairn/cairn/ArrayContainer", "add", "(C)Lcom/example/cairn/cairn/Container;"⟩ : MethodName)) hown (mvT hZ (hw _ (List.mem_of_getElem? (i := 29) rfl))) (mvT hZ (hw _ (List.mem_of_getElem? (i := 30) rfl))) (notFace_of_selects (args := #[]) (mvT hZ (hw _ (List.mem_of_getElem? (i := 32) rfl)))) (mvT hZ (hw _ (List.mem_of_getElem? (i := 32) rfl))) (mvT hZ (hw _ (List.mem_of_getElem? (i := 31) rfl))) (by decide) (backOf (W := 0) (rm_a2 l Z a0 hw [] b104 (vi98.toUInt32.toUInt16.toUInt32.toInt32) t105 kk105 u ku ((vi90.toUInt32.toUInt16.toUInt32.toInt32).toUInt32.toUInt16.toUInt32.toInt32) ((vi97.toUInt32.toUInt16.toUInt32.toInt32).toUInt32.toUInt16.toUInt32.toInt32) (0 : Int32) (0 : Int32) T108.heap n0 P108 g_b104 gt105 (by rw [own_c vi97 (by omega) (by omega), own_c vi97 (by omega) (by omega), own_c vi98 (by omega) (by omega)]; rw [Int32.lt_iff_toInt_lt]; omega)) hZ (hw _ (List.mem_of_getElem? (i := 33) rfl)) (hw _ (List.mem_of_getElem? (i := 8) rfl)) (by decide) (by decide)) q110a q110c (g := (mkF m 158 #[.val (.int p1), .val (.int p2), .val (.int p3), .val (.int p4), .val (.int p5), .val (.int (3 : Int32)), .val (.int vi90), .val (.int vi92), .val (.int vi94), .val (.int vi96), .val (.int vi97), .val (.int vi98), .val (.int vi99), .val (.int vi98), .val (.ref b104), .unset] [(.int (vi98.toUInt32.toUInt16.toUInt32.toInt32)), (.ref b104)])) rfl (by rw [hml]; rfl) (Steps.refl _) (argsL := [(.int (vi98.toUInt32.toUInt16.toUInt32.toInt32))]) (rest := []) (lenOf pd_9 rfl) rfl (by show 2 * 0 + _ ≤ _; exact Nat.le_of_eq rfl) (hb hby at_158) (fun _ _ => ⟨rfl, rfl, (by decide : 2 + 0 ≤ _), (by decide : 8 + 0 ≤ _)⟩)
      dsimp only [Pt.U, Pt.locs, Pt.cells, Pt.slots] at X110 l110 y110 z110 st110 hQ110
      subst l110 y110 z110
      obtain ⟨rfl, N110q, K110c, P110⟩ := hQ110
      have N110 := Fr.app N108 N110q
      replace X110 : Stand p l e room_1 s m _ below meth c T110 _ 2 8 := X110
      refine own_go (fun t_ k => st110.trans k) ?_
      have K110 : Keep h0 T110.heap [] := K108.trans K110c (allS (Or.inr sz_b104) (allS (Or.inr szt105) all0))
      show WP p e below _ (T110.setTop (mkF m 161 #[.val (.int p1), .val (.int p2), .val (.int p3), .val (.int p4), .val (.int p5), .val (.int (3 : Int32)), .val (.int vi90), .val (.int vi92), .val (.int vi94), .val (.int vi96), .val (.int vi97), .val (.int vi98), .val (.int vi99), .val (.int vi98), .val (.ref b104), .unset] [(.ref b104)]))
      refine own_go (fun t_ k => XS.pop X110.here hx rfl (hb hby at_161) rfl rfl k) ?_
      show WP p e below _ (T110.setTop (mkF m 162 #[.val (.int p1), .val (.int p2), .val (.int p3), .val (.int p4), .val (.int p5), .val (.int (3 : Int32)), .val (.int vi90), .val (.int vi92), .val (.int vi94), .val (.int vi96), .val (.int vi97), .val (.int vi98), .val (.int vi99), .val (.int vi98), .val (.ref b104), .unset] []))
      refine own_go (fun t_ k => XS.iload X110.here hx rfl (hb hby at_162) rfl k) ?_
      show WP p e below _ (T110.setTop (mkF m 164 #[.val (.int p1), .val (.int p2), .val (.int p3), .val (.int p4), .val (.int p5), .val (.int (3 : Int32)), .val (.int vi90), .val (.int vi92), .val (.int vi94), .val (.int vi96), .val (.int vi97), .val (.int vi98), .val (.int vi99), .val (.int vi98), .val (.ref b104), .unset] [(.int (3 : Int32))]))
      refine own_go (fun t_ k => XS.iconst X110.here hx rfl (hb hby at_164) k) ?_
      show WP p e below _ (T110.setTop (mkF m 165 #[.val (.int p1), .val (.int p2), .val (.int p3), .val (.int p4), .val (.int p5), .val (.int (3 : Int32)), .val (.int vi90), .val (.int vi92), .val (.int vi94), .val (.int vi96), .val (.int vi97), .val (.int vi98), .val (.int vi99), .val (.int vi98), .val (.ref b104), .unset] [(.int (4 : Int32)), (.int (3 : Int32))]))
      have hc165_111 : ((3 : Int32) < (4 : Int32)) := by decide
      refine own_go (fun t_ k => XS.icmpYes X110.here hx rfl (pc0 := 165) (pc' := 177) rfl (hb hby at_165) rfl (tlt hc165_111).1 (by decide) (by decide) k) ?_
      show WP p e below _ (T110.setTop (mkF m 177 #[.val (.int p1), .val (.int p2), .val (.int p3), .val (.int p4), .val (.int p5), .val (.int (3 : Int32)), .val (.int vi90), .val (.int vi92), .val (.int vi94), .val (.int vi96), .val (.int vi97), .val (.int vi98), .val (.int vi99), .val (.int vi98), .val (.ref b104), .unset] []))
      refine own_go (fun t_ k => XS.iload X110.here hx rfl (hb hby at_177) rfl k) ?_
      show WP p e below _ (T110.setTop (mkF m 179 #[.val (.int p1), .val (.int p2), .val (.int p3), .val (.int p4), .val (.int p5), .val (.int (3 : Int32)), .val (.int vi90), .val (.int vi92), .val (.int vi94), .val (.int vi96), .val (.int vi97), .val (.int vi98), .val (.int vi99), .val (.int vi98), .val (.ref b104), .unset] [(.int (3 : Int32))]))
      have hc179_112 : ¬ ((3 : Int32) = (0 : Int32)) := by decide
      refine own_go (fun t_ k => XS.ifYes X110.here hx rfl (pc0 := 179) (pc' := 186) rfl (hb hby at_179) rfl ((if0 _ _).trans (feq hc179_112).2) (by decide) (by decide) k) ?_
      show WP p e below _ (T110.setTop (mkF m 186 #[.val (.int p1), .val (.int p2), .val (.int p3), .val (.int p4), .val (.int p5), .val (.int (3 : Int32)), .val (.int vi90), .val (.int vi92), .val (.int vi94), .val (.int vi96), .val (.int vi97), .val (.int vi98), .val (.int vi99), .val (.int vi98), .val (.ref b104), .unset] []))
      refine own_go (fun t_ k => XS.iconst X110.here hx rfl (hb hby at_186) k) ?_
      show WP p e below _ (T110.setTop (mkF m 187 #[.val (.int p1), .val (.int p2), .val (.int p3), .val (.int p4), .val (.int p5), .val (.int (3 : Int32)), .val (.int vi90), .val (.int vi92), .val (.int vi94), .val (.int vi96), .val (.int vi97), .val (.int vi98), .val (.int vi99), .val (.int vi98), .val (.ref b104), .unset] [(.int (1 : Int32))]))
      refine own_go (fun t_ k => XS.istore X110.here hx rfl (hb hby at_187) rfl (l' := #[.val (.int p1), .val (.int p2), .val (.int p3), .val (.int p4), .val (.int p5), .val (.int (3 : Int32)), .val (.int vi90), .val (.int vi92), .val (.int vi94), .val (.int vi96), .val (.int vi97), .val (.int vi98), .val (.int vi99), .val (.int vi98), .val (.ref b104), .val (.int (1 : Int32))]) rfl k) ?_
      show WP p e below _ (T110.setTop (mkF m 189 #[.val (.int p1), .val (.int p2), .val (.int p3), .val (.int p4), .val (.int p5), .val (.int (3 : Int32)), .val (.int vi90), .val (.int vi92), .val (.int vi94), .val (.int vi96), .val (.int vi97), .val (.int vi98), .val (.int vi99), .val (.int vi98), .val (.ref b104), .val (.int (1 : Int32))] []))
      refine own_go (fun t_ k => XS.iload X110.here hx rfl (hb hby at_189) rfl k) ?_
      show WP p e below _ (T110.setTop (mkF m 191 #[.val (.int p1), .val (.int p2), .val (.int p3), .val (.int p4), .val (.int p5), .val (.int (3 : Int32)), .val (.int vi90), .val (.int vi92), .val (.int vi94), .val (.int vi96), .val (.int vi97), .val (.int vi98), .val (.int vi99), .val (.int vi98), .val (.ref b104), .val (.int (1 : Int32))] [(.int (3 : Int32))]))
      refine own_go (fun t_ k => XS.iconst X110.here hx rfl (hb hby at_191) k) ?_
      show WP p e below _ (T110.setTop (mkF m 192 #[.val (.int p1), .val (.int p2), .val (.int p3), .val (.int p4), .val (.int p5), .val (.int (3 : Int32)), .val (.int vi90), .val (.int vi92), .val (.int vi94), .val (.int vi96), .val (.int vi97), .val (.int vi98), .val (.int vi99), .val (.int vi98), .val (.ref b104), .val (.int (1 : Int32))] [(.int (2 : Int32)), (.int (3 : Int32))]))
      have hc192_113 : ¬ ((3 : Int32) < (2 : Int32)) := by decide
      refine own_go (fun t_ k => XS.icmpNo X110.here hx rfl (hb hby at_192) rfl (flt hc192_113).1 k) ?_
      show WP p e below _ (T110.setTop (mkF m 195 #[.val (.int p1), .val (.int p2), .val (.int p3), .val (.int p4), .val (.int p5), .val (.int (3 : Int32)), .val (.int vi90), .val (.int vi92), .val (.int vi94), .val (.int vi96), .val (.int vi97), .val (.int vi98), .val (.int vi99), .val (.int vi98), .val (.ref b104), .val (.int (1 : Int32))] []))
      refine own_go (fun t_ k => XS.iload X110.here hx rfl (hb hby at_195) rfl k) ?_
      show WP p e below _ (T110.setTop (mkF m 197 #[.val (.int p1), .val (.int p2), .val (.int p3), .val (.int p4), .val (.int p5), .val (.int (3 : Int32)), .val (.int vi90), .val (.int vi92), .val (.int vi94), .val (.int vi96), .val (.int vi97), .val (.int vi98), .val (.int vi99), .val (.int vi98), .val (.ref b104), .val (.int (1 : Int32))] [(.int vi92)]))
      have J116 : ∀ (T116 : State) (ls116 : List Loc) (X116 : Stand p l e room_1 s m #[(.int p1), (.int p2), (.int p3), (.int p4), (.int p5)] below meth c T116 ls116 2 8) (N116 : Fr n0 ls116) (e116 : T116.heap = T110.heap) (z115_L15 : Int32) (hz115_L15 : z115_L15 = (if vi92 = (0 : Int32) then (1 : Int32) else (2 : Int32))), WP p e below (GG (Q0 n0) s room_1.cells room_1.slots) (T116.setTop (mkF m 203 #[.val (.int p1), .val (.int p2), .val (.int p3), .val (.int p4), .val (.int p5), .val (.int (3 : Int32)), .val (.int vi90), .val (.int vi92), .val (.int vi94), .val (.int vi96), .val (.int vi97), .val (.int vi98), .val (.int vi99), .val (.int vi98), .val (.ref b104), .val (.int z115_L15)] [])) := by
        intro T116 ls116 X116 N116 e116 z115_L15 hz115_L15
        show WP p e below _ (T116.setTop (mkF m 203 #[.val (.int p1), .val (.int p2), .val (.int p3), .val (.int p4), .val (.int p5), .val (.int (3 : Int32)), .val (.int vi90), .val (.int vi92), .val (.int vi94), .val (.int vi96), .val (.int vi97), .val (.int vi98), .val (.int vi99), .val (.int vi98), .val (.ref b104), .val (.int z115_L15)] []))
        refine own_go (fun t_ k => XS.iload X116.here hx rfl (hb hby at_203) rfl k) ?_
        show WP p e below _ (T116.setTop (mkF m 205 #[.val (.int p1), .val (.int p2), .val (.int p3), .val (.int p4), .val (.int p5), .val (.int (3 : Int32)), .val (.int vi90), .val (.int vi92), .val (.int vi94), .val (.int vi96), .val (.int vi97), .val (.int vi98), .val (.int vi99), .val (.int vi98), .val (.ref b104), .val (.int z115_L15)] [(.int (3 : Int32))]))
        refine own_go (fun t_ k => XS.iconst X116.here hx rfl (hb hby at_205) k) ?_
        show WP p e below _ (T116.setTop (mkF m 206 #[.val (.int p1), .val (.int p2), .val (.int p3), .val (.int p4), .val (.int p5), .val (.int (3 : Int32)), .val (.int vi90), .val (.int vi92), .val (.int vi94), .val (.int vi96), .val (.int vi97), .val (.int vi98), .val (.int vi99), .val (.int vi98), .val (.ref b104), .val (.int z115_L15)] [(.int (3 : Int32)), (.int (3 : Int32))]))
        have hc206_117 : ¬ ((3 : Int32) < (3 : Int32)) := by decide
        refine own_go (fun t_ k => XS.icmpNo X116.here hx rfl (hb hby at_206) rfl (flt hc206_117).1 k) ?_
        show WP p e below _ (T116.setTop (mkF m 209 #[.val (.int p1), .val (.int p2), .val (.int p3), .val (.int p4), .val (.int p5), .val (.int (3 : Int32)), .val (.int vi90), .val (.int vi92), .val (.int vi94), .val (.int vi96), .val (.int vi97), .val (.int vi98), .val (.int vi99), .val (.int vi98), .val (.ref b104), .val (.int z115_L15)] []))
        refine own_go (fun t_ k => XS.iload X116.here hx rfl (hb hby at_209) rfl k) ?_
        show WP p e below _ (T116.setTop (mkF m 211 #[.val (.int p1), .val (.int p2), .val (.int p3), .val (.int p4), .val (.int p5), .val (.int (3 : Int32)), .val (.int vi90), .val (.int vi92), .val (.int vi94), .val (.int vi96), .val (.int vi97), .val (.int vi98), .val (.int vi99), .val (.int vi98), .val (.ref b104), .val (.int z115_L15)] [(.int vi94)]))
        have J120 : ∀ (T120 : State) (ls120 : List Loc) (X120 : Stand p l e room_1 s m #[(.int p1), (.int p2), (.int p3), (.int p4), (.int p5)] below meth c T120 ls120 2 8) (N120 : Fr n0 ls120) (e120 : T120.heap = T110.heap) (z119_L15 : Int32) (hz119_L15 : z119_L15 = (if vi94 = (0 : Int32) then z115_L15 else (z115_L15 + (1 : Int32)))), WP p e below (GG (Q0 n0) s room_1.cells room_1.slots) (T120.setTop (mkF m 217 #[.val (.int p1), .val (.int p2), .val (.int p3), .val (.int p4), .val (.int p5), .val (.int (3 : Int32)), .val (.int vi90), .val (.int vi92), .val (.int vi94), .val (.int vi96), .val (.int vi97), .val (.int vi98), .val (.int vi99), .val (.int vi98), .val (.ref b104), .val (.int z119_L15)] [])) := by
          intro T120 ls120 X120 N120 e120 z119_L15 hz119_L15
          show WP p e below _ (T120.setTop (mkF m 217 #[.val (.int p1), .val (.int p2), .val (.int p3), .val (.int p4), .val (.int p5), .val (.int (3 : Int32)), .val (.int vi90), .val (.int vi92), .val (.int vi94), .val (.int vi96), .val (.int vi97), .val (.int vi98), .val (.int vi99), .val (.int vi98), .val (.ref b104), .val (.int z119_L15)] []))
          refine own_go (fun t_ k => XS.iload X120.here hx rfl (hb hby at_217) rfl k) ?_
          show WP p e below _ (T120.setTop (mkF m 219 #[.val (.int p1), .val (.int p2), .val (.int p3), .val (.int p4), .val (.int p5), .val (.int (3 : Int32)), .val (.int vi90), .val (.int vi92), .val (.int vi94), .val (.int vi96), .val (.int vi97), .val (.int vi98), .val (.int vi99), .val (.int vi98), .val (.ref b104), .val (.int z119_L15)] [(.int (3 : Int32))]))
          refine own_go (fun t_ k => XS.iconst X120.here hx rfl (hb hby at_219) k) ?_
          show WP p e below _ (T120.setTop (mkF m 220 #[.val (.int p1), .val (.int p2), .val (.int p3), .val (.int p4), .val (.int p5), .val (.int (3 : Int32)), .val (.int vi90), .val (.int vi92), .val (.int vi94), .val (.int vi96), .val (.int vi97), .val (.int vi98), .val (.int vi99), .val (.int vi98), .val (.ref b104), .val (.int z119_L15)] [(.int (4 : Int32)), (.int (3 : Int32))]))
          have hc220_121 : ((3 : Int32) < (4 : Int32)) := by decide
          refine own_go (fun t_ k => XS.icmpYes X120.here hx rfl (pc0 := 220) (pc' := 231) rfl (hb hby at_220) rfl (tlt hc220_121).1 (by decide) (by decide) k) ?_
          show WP p e below _ (T120.setTop (mkF m 231 #[.val (.int p1), .val (.int p2), .val (.int p3), .val (.int p4), .val (.int p5), .val (.int (3 : Int32)), .val (.int vi90), .val (.int vi92), .val (.int vi94), .val (.int vi96), .val (.int vi97), .val (.int vi98), .val (.int vi99), .val (.int vi98), .val (.ref b104), .val (.int z119_L15)] []))
          refine own_go (fun t_ k => XS.aload X120.here hx rfl (hb hby at_231) rfl rfl k) ?_
          show WP p e below _ (T120.setTop (mkF m 233 #[.val (.int p1), .val (.int p2), .val (.int p3), .val (.int p4), .val (.int p5), .val (.int (3 : Int32)), .val (.int vi90), .val (.int vi92), .val (.int vi94), .val (.int vi96), .val (.int vi97), .val (.int vi98), .val (.int vi99), .val (.int vi98), .val (.ref b104), .val (.int z119_L15)] [(.ref b104)]))
          obtain ⟨cq122, kq122, q122a, q122b, q122c⟩ := isOf (T := T120) hZ e120 P110.1
          obtain ⟨_, _, ⟨T122, L122, k122, n122⟩, -, X122, ⟨Lc122, hQ122, l122, y122, z122⟩, st122⟩ := X120.virtualBack hx (y := (⟨"com/example/cairn/cairn/ArrayContainer", "runCount", "()I"⟩ : MethodName)) (z := (⟨"com/example/cairn/cairn/ArrayContainer", "runCount", "()I"⟩ : MethodName)) hown (mvT hZ (hw _ (List.mem_of_getElem? (i := 42) rfl))) (mvT hZ (hw _ (List.mem_of_getElem? (i := 43) rfl))) (notFace_of_selects (args := #[]) (mvT hZ (hw _ (List.mem_of_getElem? (i := 45) rfl)))) (mvT hZ (hw _ (List.mem_of_getElem? (i := 45) rfl))) (mvT hZ (hw _ (List.mem_of_getElem? (i := 44) rfl))) (by decide) (backOf (W := 0) (rm_rc3 l Z a0 hw [] b104 t105 kk105 u ku ((vi90.toUInt32.toUInt16.toUInt32.toInt32).toUInt32.toUInt16.toUInt32.toInt32) ((vi97.toUInt32.toUInt16.toUInt32.toInt32).toUInt32.toUInt16.toUInt32.toInt32) ((vi98.toUInt32.toUInt16.toUInt32.toInt32).toUInt32.toUInt16.toUInt32.toInt32) (0 : Int32) T110.heap n0 P110) hZ (hw _ (List.mem_of_getElem? (i := 46) rfl)) (hw _ (List.mem_of_getElem? (i := 8) rfl)) (by decide) (by decide)) q122a q122c (g := (mkF m 233 #[.val (.int p1), .val (.int p2), .val (.int p3), .val (.int p4), .val (.int p5), .val (.int (3 : Int32)), .val (.int vi90), .val (.int vi92), .val (.int vi94), .val (.int vi96), .val (.int vi97), .val (.int vi98), .val (.int vi99), .val (.int vi98), .val (.ref b104), .val (.int z119_L15)] [(.ref b104)])) rfl (by rw [hml]; rfl) (Steps.refl _) (argsL := []) (rest := []) (lenOf pd_10 rfl) rfl (by show 2 * 0 + _ ≤ _; exact Nat.le_of_eq rfl) (hb hby at_233) (fun _ _ => ⟨rfl, e120, (by decide : 2 + 0 ≤ _), (by decide : 8 + 0 ≤ _)⟩)
          dsimp only [Pt.U, Pt.locs, Pt.cells, Pt.slots] at X122 l122 y122 z122 st122 hQ122
          subst l122 y122 z122
          obtain ⟨rfl, N122q, e122⟩ := hQ122
          have N122 := Fr.app N120 N122q
          replace X122 : Stand p l e room_1 s m _ below meth c T122 _ 2 8 := X122
          refine own_go (fun t_ k => st122.trans k) ?_
          show WP p e below _ (T122.setTop (mkF m 236 #[.val (.int p1), .val (.int p2), .val (.int p3), .val (.int p4), .val (.int p5), .val (.int (3 : Int32)), .val (.int vi90), .val (.int vi92), .val (.int vi94), .val (.int vi96), .val (.int vi97), .val (.int vi98), .val (.int vi99), .val (.int vi98), .val (.ref b104), .val (.int z119_L15)] [(.int (rc3 ((vi90.toUInt32.toUInt16.toUInt32.toInt32).toUInt32.toUInt16.toUInt32.toInt32) ((vi97.toUInt32.toUInt16.toUInt32.toInt32).toUInt32.toUInt16.toUInt32.toInt32) ((vi98.toUInt32.toUInt16.toUInt32.toInt32).toUInt32.toUInt16.toUInt32.toInt32) (0 : Int32)))]))
          generalize he123 : (rc3 ((vi90.toUInt32.toUInt16.toUInt32.toInt32).toUInt32.toUInt16.toUInt32.toInt32) ((vi97.toUInt32.toUInt16.toUInt32.toInt32).toUInt32.toUInt16.toUInt32.toInt32) ((vi98.toUInt32.toUInt16.toUInt32.toInt32).toUInt32.toUInt16.toUInt32.toInt32) (0 : Int32)) = vi123
          show WP p e below _ (T122.setTop (mkF m 236 #[.val (.int p1), .val (.int p2), .val (.int p3), .val (.int p4), .val (.int p5), .val (.int (3 : Int32)), .val (.int vi90), .val (.int vi92), .val (.int vi94), .val (.int vi96), .val (.int vi97), .val (.int vi98), .val (.int vi99), .val (.int vi98), .val (.ref b104), .val (.int z119_L15)] [(.int vi123)]))
          refine own_go (fun t_ k => XS.iload X122.here hx rfl (hb hby at_236) rfl k) ?_
          show WP p e below _ (T122.setTop (mkF m 238 #[.val (.int p1), .val (.int p2), .val (.int p3), .val (.int p4), .val (.int p5), .val (.int (3 : Int32)), .val (.int vi90), .val (.int vi92), .val (.int vi94), .val (.int vi96), .val (.int vi97), .val (.int vi98), .val (.int vi99), .val (.int vi98), .val (.ref b104), .val (.int z119_L15)] [(.int z119_L15), (.int vi123)]))
          have J126 : ∀ (T126 : State) (ls126 : List Loc) (X126 : Stand p l e room_1 s m #[(.int p1), (.int p2), (.int p3), (.int p4), (.int p5)] below meth c T126 ls126 2 8) (N126 : Fr n0 ls126) (e126 : T126.heap = T110.heap) (z125_S0 : Int32) (hz125_S0 : z125_S0 = (if vi123 = z119_L15 then (1 : Int32) else (0 : Int32))), WP p e below (GG (Q0 n0) s room_1.cells room_1.slots) (T126.setTop (mkF m 246 #[.val (.int p1), .val (.int p2), .val (.int p3), .val (.int p4), .val (.int p5), .val (.int (3 : Int32)), .val (.int vi90), .val (.int vi92), .val (.int vi94), .val (.int vi96), .val (.int vi97), .val (.int vi98), .val (.int vi99), .val (.int vi98), .val (.ref b104), .val (.int z119_L15)] [(.int z125_S0)])) := by
            intro T126 ls126 X126 N126 e126 z125_S0 hz125_S0
            show WP p e below _ (T126.setTop (mkF m 246 #[.val (.int p1), .val (.int p2), .val (.int p3), .val (.int p4), .val (.int p5), .val (.int (3 : Int32)), .val (.int vi90), .val (.int vi92), .val (.int vi94), .val (.int vi96), .val (.int vi97), .val (.int vi98), .val (.int vi99), .val (.int vi98), .val (.ref b104), .val (.int z119_L15)] [(.int z125_S0)]))
            exact own_retZ X126 hx Bd.notSynchronized Bd.returns (hb hby at_246) (by rw [hz125_S0]; (repeat' split); all_goals first | exact Or.inl rfl | exact Or.inr rfl) (show Q0 n0 _ _ _ from ⟨congrArg (fun z => some (Value.int z)) (own_law_4 (p1 := p1) (p2 := p2) (p3 := p3) (p4 := p4) (p5 := p5) he1 he90 he92 he94 he96 he97 he98 he99 hz115_L15 hz119_L15 he123 hz125_S0 hc101_103), N126⟩) (by decide) (by decide)
          by_cases hc238_124 : vi123 = z119_L15
          · refine own_go (fun t_ k => XS.icmpNo X122.here hx rfl (hb hby at_238) rfl (teq hc238_124).2 k) ?_
            show WP p e below _ (T122.setTop (mkF m 241 #[.val (.int p1), .val (.int p2), .val (.int p3), .val (.int p4), .val (.int p5), .val (.int (3 : Int32)), .val (.int vi90), .val (.int vi92), .val (.int vi94), .val (.int vi96), .val (.int vi97), .val (.int vi98), .val (.int vi99), .val (.int vi98), .val (.ref b104), .val (.int z119_L15)] []))
            refine own_go (fun t_ k => XS.iconst X122.here hx rfl (hb hby at_241) k) ?_
            show WP p e below _ (T122.setTop (mkF m 242 #[.val (.int p1), .val (.int p2), .val (.int p3), .val (.int p4), .val (.int p5), .val (.int (3 : Int32)), .val (.int vi90), .val (.int vi92), .val (.int vi94), .val (.int vi96), .val (.int vi97), .val (.int vi98), .val (.int vi99), .val (.int vi98), .val (.ref b104), .val (.int z119_L15)] [(.int (1 : Int32))]))
            refine own_go (fun t_ k => XS.goto X122.here hx rfl (pc0 := 242) (pc' := 246) rfl (hb hby at_242) (by decide) (by decide) k) ?_
            show WP p e below _ (T122.setTop (mkF m 246 #[.val (.int p1), .val (.int p2), .val (.int p3), .val (.int p4), .val (.int p5), .val (.int (3 : Int32)), .val (.int vi90), .val (.int vi92), .val (.int vi94), .val (.int vi96), .val (.int vi97), .val (.int vi98), .val (.int vi99), .val (.int vi98), .val (.ref b104), .val (.int z119_L15)] [(.int (1 : Int32))]))
            exact J126 T122 _ X122 N122 e122 _ (by rw [if_pos hc238_124])
          · refine own_go (fun t_ k => XS.icmpYes X122.here hx rfl (pc0 := 238) (pc' := 245) rfl (hb hby at_238) rfl (feq hc238_124).2 (by decide) (by decide) k) ?_
            show WP p e below _ (T122.setTop (mkF m 245 #[.val (.int p1), .val (.int p2), .val (.int p3), .val (.int p4), .val (.int p5), .val (.int (3 : Int32)), .val (.int vi90), .val (.int vi92), .val (.int vi94), .val (.int vi96), .val (.int vi97), .val (.int vi98), .val (.int vi99), .val (.int vi98), .val (.ref b104), .val (.int z119_L15)] []))
            refine own_go (fun t_ k => XS.iconst X122.here hx rfl (hb hby at_245) k) ?_
            show WP p e below _ (T122.setTop (mkF m 246 #[.val (.int p1), .val (.int p2), .val (.int p3), .val (.int p4), .val (.int p5), .val (.int (3 : Int32)), .val (.int vi90), .val (.int vi92), .val (.int vi94), .val (.int vi96), .val (.int vi97), .val (.int vi98), .val (.int vi99), .val (.int vi98), .val (.ref b104), .val (.int z119_L15)] [(.int (0 : Int32))]))
            exact J126 T122 _ X122 N122 e122 _ (by rw [if_neg hc238_124])
        by_cases hc211_118 : vi94 = (0 : Int32)
        · refine own_go (fun t_ k => XS.ifYes X116.here hx rfl (pc0 := 211) (pc' := 217) rfl (hb hby at_211) rfl ((if0 _ _).trans (teq hc211_118).1) (by decide) (by decide) k) ?_
          show WP p e below _ (T116.setTop (mkF m 217 #[.val (.int p1), .val (.int p2), .val (.int p3), .val (.int p4), .val (.int p5), .val (.int (3 : Int32)), .val (.int vi90), .val (.int vi92), .val (.int vi94), .val (.int vi96), .val (.int vi97), .val (.int vi98), .val (.int vi99), .val (.int vi98), .val (.ref b104), .val (.int z115_L15)] []))
          exact J120 T116 _ X116 N116 e116 _ (by rw [if_pos hc211_118])
        · refine own_go (fun t_ k => XS.ifNo X116.here hx rfl (hb hby at_211) rfl ((if0 _ _).trans (feq hc211_118).1) k) ?_
          show WP p e below _ (T116.setTop (mkF m 214 #[.val (.int p1), .val (.int p2), .val (.int p3), .val (.int p4), .val (.int p5), .val (.int (3 : Int32)), .val (.int vi90), .val (.int vi92), .val (.int vi94), .val (.int vi96), .val (.int vi97), .val (.int vi98), .val (.int vi99), .val (.int vi98), .val (.ref b104), .val (.int z115_L15)] []))
          refine own_go (fun t_ k => XS.iinc X116.here hx rfl (hb hby at_214) rfl (l' := #[.val (.int p1), .val (.int p2), .val (.int p3), .val (.int p4), .val (.int p5), .val (.int (3 : Int32)), .val (.int vi90), .val (.int vi92), .val (.int vi94), .val (.int vi96), .val (.int vi97), .val (.int vi98), .val (.int vi99), .val (.int vi98), .val (.ref b104), .val (.int (z115_L15 + (1 : Int32)))]) rfl k) ?_
          show WP p e below _ (T116.setTop (mkF m 217 #[.val (.int p1), .val (.int p2), .val (.int p3), .val (.int p4), .val (.int p5), .val (.int (3 : Int32)), .val (.int vi90), .val (.int vi92), .val (.int vi94), .val (.int vi96), .val (.int vi97), .val (.int vi98), .val (.int vi99), .val (.int vi98), .val (.ref b104), .val (.int (z115_L15 + (1 : Int32)))] []))
          exact J120 T116 _ X116 N116 e116 _ (by rw [if_neg hc211_118])
      by_cases hc197_114 : vi92 = (0 : Int32)
      · refine own_go (fun t_ k => XS.ifYes X110.here hx rfl (pc0 := 197) (pc' := 203) rfl (hb hby at_197) rfl ((if0 _ _).trans (teq hc197_114).1) (by decide) (by decide) k) ?_
        show WP p e below _ (T110.setTop (mkF m 203 #[.val (.int p1), .val (.int p2), .val (.int p3), .val (.int p4), .val (.int p5), .val (.int (3 : Int32)), .val (.int vi90), .val (.int vi92), .val (.int vi94), .val (.int vi96), .val (.int vi97), .val (.int vi98), .val (.int vi99), .val (.int vi98), .val (.ref b104), .val (.int (1 : Int32))] []))
        exact J116 T110 _ X110 N110 rfl _ (by rw [if_pos hc197_114])
      · refine own_go (fun t_ k => XS.ifNo X110.here hx rfl (hb hby at_197) rfl ((if0 _ _).trans (feq hc197_114).1) k) ?_
        show WP p e below _ (T110.setTop (mkF m 200 #[.val (.int p1), .val (.int p2), .val (.int p3), .val (.int p4), .val (.int p5), .val (.int (3 : Int32)), .val (.int vi90), .val (.int vi92), .val (.int vi94), .val (.int vi96), .val (.int vi97), .val (.int vi98), .val (.int vi99), .val (.int vi98), .val (.ref b104), .val (.int (1 : Int32))] []))
        refine own_go (fun t_ k => XS.iinc X110.here hx rfl (hb hby at_200) rfl (l' := #[.val (.int p1), .val (.int p2), .val (.int p3), .val (.int p4), .val (.int p5), .val (.int (3 : Int32)), .val (.int vi90), .val (.int vi92), .val (.int vi94), .val (.int vi96), .val (.int vi97), .val (.int vi98), .val (.int vi99), .val (.int vi98), .val (.ref b104), .val (.int (2 : Int32))]) rfl k) ?_
        show WP p e below _ (T110.setTop (mkF m 203 #[.val (.int p1), .val (.int p2), .val (.int p3), .val (.int p4), .val (.int p5), .val (.int (3 : Int32)), .val (.int vi90), .val (.int vi92), .val (.int vi94), .val (.int vi96), .val (.int vi97), .val (.int vi98), .val (.int vi99), .val (.int vi98), .val (.ref b104), .val (.int (2 : Int32))] []))
        exact J116 T110 _ X110 N110 rfl _ (by rw [if_neg hc197_114])
  · subst hs2
    show WP p e below _ (s₁.setTop (mkF m 8 #[.val (.int p1), .val (.int p2), .val (.int p3), .val (.int p4), .val (.int p5), .val (.int (4 : Int32)), .unset, .unset, .unset, .unset, .unset, .unset, .unset, .unset, .unset, .unset] []))
    refine own_go (fun t_ k => XS.iloadN X0.here hx rfl (hb hby at_8) rfl k) ?_
    show WP p e below _ (s₁.setTop (mkF m 9 #[.val (.int p1), .val (.int p2), .val (.int p3), .val (.int p4), .val (.int p5), .val (.int (4 : Int32)), .unset, .unset, .unset, .unset, .unset, .unset, .unset, .unset, .unset, .unset] [(.int p1)]))
    refine own_go (fun t_ k => X0.ldcInt hx hown (mvT hZ (hw _ (List.mem_of_getElem? (i := 1) rfl))) (g := (mkF m 9 #[.val (.int p1), .val (.int p2), .val (.int p3), .val (.int p4), .val (.int p5), .val (.int (4 : Int32)), .unset, .unset, .unset, .unset, .unset, .unset, .unset, .unset, .unset, .unset] [(.int p1)])) rfl (hb hby at_9) _ k) ?_
    show WP p e below _ (s₁.setTop (mkF m 11 #[.val (.int p1), .val (.int p2), .val (.int p3), .val (.int p4), .val (.int p5), .val (.int (4 : Int32)), .unset, .unset, .unset, .unset, .unset, .unset, .unset, .unset, .unset, .unset] [(.int (65535 : Int32)), (.int p1)]))
    refine own_go (fun t_ k => XS.iand X0.here hx rfl (hb hby at_11) rfl k) ?_
    show WP p e below _ (s₁.setTop (mkF m 12 #[.val (.int p1), .val (.int p2), .val (.int p3), .val (.int p4), .val (.int p5), .val (.int (4 : Int32)), .unset, .unset, .unset, .unset, .unset, .unset, .unset, .unset, .unset, .unset] [(.int (p1 &&& (65535 : Int32)))]))
    refine own_go (fun t_ k => XS.istore X0.here hx rfl (hb hby at_12) rfl (l' := #[.val (.int p1), .val (.int p2), .val (.int p3), .val (.int p4), .val (.int p5), .val (.int (4 : Int32)), .val (.int (p1 &&& (65535 : Int32))), .unset, .unset, .unset, .unset, .unset, .unset, .unset, .unset, .unset]) rfl k) ?_
    show WP p e below _ (s₁.setTop (mkF m 14 #[.val (.int p1), .val (.int p2), .val (.int p3), .val (.int p4), .val (.int p5), .val (.int (4 : Int32)), .val (.int (p1 &&& (65535 : Int32))), .unset, .unset, .unset, .unset, .unset, .unset, .unset, .unset, .unset] []))
    generalize he127 : (p1 &&& (65535 : Int32)) = vi127
    show WP p e below _ (s₁.setTop (mkF m 14 #[.val (.int p1), .val (.int p2), .val (.int p3), .val (.int p4), .val (.int p5), .val (.int (4 : Int32)), .val (.int vi127), .unset, .unset, .unset, .unset, .unset, .unset, .unset, .unset, .unset] []))
    refine own_go (fun t_ k => XS.iloadN X0.here hx rfl (hb hby at_14) rfl k) ?_
    show WP p e below _ (s₁.setTop (mkF m 15 #[.val (.int p1), .val (.int p2), .val (.int p3), .val (.int p4), .val (.int p5), .val (.int (4 : Int32)), .val (.int vi127), .unset, .unset, .unset, .unset, .unset, .unset, .unset, .unset, .unset] [(.int p3)]))
    obtain ⟨_, _, ⟨T128, L128, k128, n128⟩, -, X128, ⟨Lc128, hQ128, l128, y128, z128⟩, st128⟩ := Jvm.LawKit.callS X0 hx (y := (⟨"com/example/cairn/cairn/ArrayContainerRunCountPinLaw", "gap", "(I)I"⟩ : MethodName)) hown (mvT hZ (hw _ (List.mem_of_getElem? (i := 2) rfl))) (mvT hZ (hw _ (List.mem_of_getElem? (i := 3) rfl))) (mvT hZ (hw _ (List.mem_of_getElem? (i := 4) rfl))) (mvT hZ (hw _ (List.mem_of_getElem? (i := 5) rfl))) (by decide) (backOf (W := 0) (rm1 l Z a0 hw [] p3 h0 n0) hZ (hw _ (List.mem_of_getElem? (i := 5) rfl)) (hw _ (List.mem_of_getElem? (i := 4) rfl)) (by decide) (by decide)) (g := (mkF m 15 #[.val (.int p1), .val (.int p2), .val (.int p3), .val (.int p4), .val (.int p5), .val (.int (4 : Int32)), .val (.int vi127), .unset, .unset, .unset, .unset, .unset, .unset, .unset, .unset, .unset] [(.int p3)])) rfl (by rw [hml]; rfl) (argsL := [(.int p3)]) (rest := []) (lenOf pd_7 rfl) rfl (by show 2 * 0 + _ ≤ _; exact Nat.le_of_eq rfl) (hb hby at_15) (fun _ _ => ⟨rfl, e0, (by decide : 0 + 0 ≤ _), (by decide : 0 + 0 ≤ _)⟩)
    dsimp only [Pt.U, Pt.locs, Pt.cells, Pt.slots] at X128 l128 y128 z128 st128 hQ128
    subst l128 y128 z128
    obtain ⟨rfl, N128q, e128⟩ := hQ128
    have N128 := Fr.app N0 N128q
    replace X128 : Stand p l e room_1 s m _ below meth c T128 _ 0 0 := X128
    refine own_go st128 ?_
    show WP p e below _ (T128.setTop (mkF m 18 #[.val (.int p1), .val (.int p2), .val (.int p3), .val (.int p4), .val (.int p5), .val (.int (4 : Int32)), .val (.int vi127), .unset, .unset, .unset, .unset, .unset, .unset, .unset, .unset, .unset] [(.int (f1 p3))]))
    generalize he129 : (f1 p3) = vi129
    show WP p e below _ (T128.setTop (mkF m 18 #[.val (.int p1), .val (.int p2), .val (.int p3), .val (.int p4), .val (.int p5), .val (.int (4 : Int32)), .val (.int vi127), .unset, .unset, .unset, .unset, .unset, .unset, .unset, .unset, .unset] [(.int vi129)]))
    refine own_go (fun t_ k => XS.istore X128.here hx rfl (hb hby at_18) rfl (l' := #[.val (.int p1), .val (.int p2), .val (.int p3), .val (.int p4), .val (.int p5), .val (.int (4 : Int32)), .val (.int vi127), .val (.int vi129), .unset, .unset, .unset, .unset, .unset, .unset, .unset, .unset]) rfl k) ?_
    show WP p e below _ (T128.setTop (mkF m 20 #[.val (.int p1), .val (.int p2), .val (.int p3), .val (.int p4), .val (.int p5), .val (.int (4 : Int32)), .val (.int vi127), .val (.int vi129), .unset, .unset, .unset, .unset, .unset, .unset, .unset, .unset] []))
    refine own_go (fun t_ k => XS.iloadN X128.here hx rfl (hb hby at_20) rfl k) ?_
    show WP p e below _ (T128.setTop (mkF m 21 #[.val (.int p1), .val (.int p2), .val (.int p3), .val (.int p4), .val (.int p5), .val (.int (4 : Int32)), .val (.int vi127), .val (.int vi129), .unset, .unset, .unset, .unset, .unset, .unset, .unset, .unset] [(.int p4)]))
    obtain ⟨_, _, ⟨T130, L130, k130, n130⟩, -, X130, ⟨Lc130, hQ130, l130, y130, z130⟩, st130⟩ := Jvm.LawKit.callS X128 hx (y := (⟨"com/example/cairn/cairn/ArrayContainerRunCountPinLaw", "gap", "(I)I"⟩ : MethodName)) hown (mvT hZ (hw _ (List.mem_of_getElem? (i := 2) rfl))) (mvT hZ (hw _ (List.mem_of_getElem? (i := 3) rfl))) (mvT hZ (hw _ (List.mem_of_getElem? (i := 4) rfl))) (mvT hZ (hw _ (List.mem_of_getElem? (i := 5) rfl))) (by decide) (backOf (W := 0) (rm1 l Z a0 hw [] p4 h0 n0) hZ (hw _ (List.mem_of_getElem? (i := 5) rfl)) (hw _ (List.mem_of_getElem? (i := 4) rfl)) (by decide) (by decide)) (g := (mkF m 21 #[.val (.int p1), .val (.int p2), .val (.int p3), .val (.int p4), .val (.int p5), .val (.int (4 : Int32)), .val (.int vi127), .val (.int vi129), .unset, .unset, .unset, .unset, .unset, .unset, .unset, .unset] [(.int p4)])) rfl (by rw [hml]; rfl) (argsL := [(.int p4)]) (rest := []) (lenOf pd_7 rfl) rfl (by show 2 * 0 + _ ≤ _; exact Nat.le_of_eq rfl) (hb hby at_21) (fun _ _ => ⟨rfl, e128, (by decide : 0 + 0 ≤ _), (by decide : 0 + 0 ≤ _)⟩)
    dsimp only [Pt.U, Pt.locs, Pt.cells, Pt.slots] at X130 l130 y130 z130 st130 hQ130
    subst l130 y130 z130
    obtain ⟨rfl, N130q, e130⟩ := hQ130
    have N130 := Fr.app N128 N130q
    replace X130 : Stand p l e room_1 s m _ below meth c T130 _ 0 0 := X130
    refine own_go st130 ?_
    show WP p e below _ (T130.setTop (mkF m 24 #[.val (.int p1), .val (.int p2), .val (.int p3), .val (.int p4), .val (.int p5), .val (.int (4 : Int32)), .val (.int vi127), .val (.int vi129), .unset, .unset, .unset, .unset, .unset, .unset, .unset, .unset] [(.int (f1 p4))]))
    generalize he131 : (f1 p4) = vi131
    show WP p e below _ (T130.setTop (mkF m 24 #[.val (.int p1), .val (.int p2), .val (.int p3), .val (.int p4), .val (.int p5), .val (.int (4 : Int32)), .val (.int vi127), .val (.int vi129), .unset, .unset, .unset, .unset, .unset, .unset, .unset, .unset] [(.int vi131)]))
    refine own_go (fun t_ k => XS.istore X130.here hx rfl (hb hby at_24) rfl (l' := #[.val (.int p1), .val (.int p2), .val (.int p3), .val (.int p4), .val (.int p5), .val (.int (4 : Int32)), .val (.int vi127), .val (.int vi129), .val (.int vi131), .unset, .unset, .unset, .unset, .unset, .unset, .unset]) rfl k) ?_
    show WP p e below _ (T130.setTop (mkF m 26 #[.val (.int p1), .val (.int p2), .val (.int p3), .val (.int p4), .val (.int p5), .val (.int (4 : Int32)), .val (.int vi127), .val (.int vi129), .val (.int vi131), .unset, .unset, .unset, .unset, .unset, .unset, .unset] []))
    refine own_go (fun t_ k => XS.iload X130.here hx rfl (hb hby at_26) rfl k) ?_
    show WP p e below _ (T130.setTop (mkF m 28 #[.val (.int p1), .val (.int p2), .val (.int p3), .val (.int p4), .val (.int p5), .val (.int (4 : Int32)), .val (.int vi127), .val (.int vi129), .val (.int vi131), .unset, .unset, .unset, .unset, .unset, .unset, .unset] [(.int p5)]))
    obtain ⟨_, _, ⟨T132, L132, k132, n132⟩, -, X132, ⟨Lc132, hQ132, l132, y132, z132⟩, st132⟩ := Jvm.LawKit.callS X130 hx (y := (⟨"com/example/cairn/cairn/ArrayContainerRunCountPinLaw", "gap", "(I)I"⟩ : MethodName)) hown (mvT hZ (hw _ (List.mem_of_getElem? (i := 2) rfl))) (mvT hZ (hw _ (List.mem_of_getElem? (i := 3) rfl))) (mvT hZ (hw _ (List.mem_of_getElem? (i := 4) rfl))) (mvT hZ (hw _ (List.mem_of_getElem? (i := 5) rfl))) (by decide) (backOf (W := 0) (rm1 l Z a0 hw [] p5 h0 n0) hZ (hw _ (List.mem_of_getElem? (i := 5) rfl)) (hw _ (List.mem_of_getElem? (i := 4) rfl)) (by decide) (by decide)) (g := (mkF m 28 #[.val (.int p1), .val (.int p2), .val (.int p3), .val (.int p4), .val (.int p5), .val (.int (4 : Int32)), .val (.int vi127), .val (.int vi129), .val (.int vi131), .unset, .unset, .unset, .unset, .unset, .unset, .unset] [(.int p5)])) rfl (by rw [hml]; rfl) (argsL := [(.int p5)]) (rest := []) (lenOf pd_7 rfl) rfl (by show 2 * 0 + _ ≤ _; exact Nat.le_of_eq rfl) (hb hby at_28) (fun _ _ => ⟨rfl, e130, (by decide : 0 + 0 ≤ _), (by decide : 0 + 0 ≤ _)⟩)
    dsimp only [Pt.U, Pt.locs, Pt.cells, Pt.slots] at X132 l132 y132 z132 st132 hQ132
    subst l132 y132 z132
    obtain ⟨rfl, N132q, e132⟩ := hQ132
    have N132 := Fr.app N130 N132q
    replace X132 : Stand p l e room_1 s m _ below meth c T132 _ 0 0 := X132
    refine own_go st132 ?_
    show WP p e below _ (T132.setTop (mkF m 31 #[.val (.int p1), .val (.int p2), .val (.int p3), .val (.int p4), .val (.int p5), .val (.int (4 : Int32)), .val (.int vi127), .val (.int vi129), .val (.int vi131), .unset, .unset, .unset, .unset, .unset, .unset, .unset] [(.int (f1 p5))]))
    generalize he133 : (f1 p5) = vi133
    show WP p e below _ (T132.setTop (mkF m 31 #[.val (.int p1), .val (.int p2), .val (.int p3), .val (.int p4), .val (.int p5), .val (.int (4 : Int32)), .val (.int vi127), .val (.int vi129), .val (.int vi131), .unset, .unset, .unset, .unset, .unset, .unset, .unset] [(.int vi133)]))
    refine own_go (fun t_ k => XS.istore X132.here hx rfl (hb hby at_31) rfl (l' := #[.val (.int p1), .val (.int p2), .val (.int p3), .val (.int p4), .val (.int p5), .val (.int (4 : Int32)), .val (.int vi127), .val (.int vi129), .val (.int vi131), .val (.int vi133), .unset, .unset, .unset, .unset, .unset, .unset]) rfl k) ?_
    show WP p e below _ (T132.setTop (mkF m 33 #[.val (.int p1), .val (.int p2), .val (.int p3), .val (.int p4), .val (.int p5), .val (.int (4 : Int32)), .val (.int vi127), .val (.int vi129), .val (.int vi131), .val (.int vi133), .unset, .unset, .unset, .unset, .unset, .unset] []))
    refine own_go (fun t_ k => XS.iload X132.here hx rfl (hb hby at_33) rfl k) ?_
    show WP p e below _ (T132.setTop (mkF m 35 #[.val (.int p1), .val (.int p2), .val (.int p3), .val (.int p4), .val (.int p5), .val (.int (4 : Int32)), .val (.int vi127), .val (.int vi129), .val (.int vi131), .val (.int vi133), .unset, .unset, .unset, .unset, .unset, .unset] [(.int vi127)]))
    refine own_go (fun t_ k => XS.iconst X132.here hx rfl (hb hby at_35) k) ?_
    show WP p e below _ (T132.setTop (mkF m 36 #[.val (.int p1), .val (.int p2), .val (.int p3), .val (.int p4), .val (.int p5), .val (.int (4 : Int32)), .val (.int vi127), .val (.int vi129), .val (.int vi131), .val (.int vi133), .unset, .unset, .unset, .unset, .unset, .unset] [(.int (1 : Int32)), (.int vi127)]))
    refine own_go (fun t_ k => XS.iadd X132.here hx rfl (hb hby at_36) rfl k) ?_
    show WP p e below _ (T132.setTop (mkF m 37 #[.val (.int p1), .val (.int p2), .val (.int p3), .val (.int p4), .val (.int p5), .val (.int (4 : Int32)), .val (.int vi127), .val (.int vi129), .val (.int vi131), .val (.int vi133), .unset, .unset, .unset, .unset, .unset, .unset] [(.int (vi127 + (1 : Int32)))]))
    refine own_go (fun t_ k => XS.iload X132.here hx rfl (hb hby at_37) rfl k) ?_
    show WP p e below _ (T132.setTop (mkF m 39 #[.val (.int p1), .val (.int p2), .val (.int p3), .val (.int p4), .val (.int p5), .val (.int (4 : Int32)), .val (.int vi127), .val (.int vi129), .val (.int vi131), .val (.int vi133), .unset, .unset, .unset, .unset, .unset, .unset] [(.int vi129), (.int (vi127 + (1 : Int32)))]))
    refine own_go (fun t_ k => XS.iadd X132.here hx rfl (hb hby at_39) rfl k) ?_
    show WP p e below _ (T132.setTop (mkF m 40 #[.val (.int p1), .val (.int p2), .val (.int p3), .val (.int p4), .val (.int p5), .val (.int (4 : Int32)), .val (.int vi127), .val (.int vi129), .val (.int vi131), .val (.int vi133), .unset, .unset, .unset, .unset, .unset, .unset] [(.int ((vi127 + (1 : Int32)) + vi129))]))
    refine own_go (fun t_ k => XS.istore X132.here hx rfl (hb hby at_40) rfl (l' := #[.val (.int p1), .val (.int p2), .val (.int p3), .val (.int p4), .val (.int p5), .val (.int (4 : Int32)), .val (.int vi127), .val (.int vi129), .val (.int vi131), .val (.int vi133), .val (.int ((vi127 + (1 : Int32)) + vi129)), .unset, .unset, .unset, .unset, .unset]) rfl k) ?_
    show WP p e below _ (T132.setTop (mkF m 42 #[.val (.int p1), .val (.int p2), .val (.int p3), .val (.int p4), .val (.int p5), .val (.int (4 : Int32)), .val (.int vi127), .val (.int vi129), .val (.int vi131), .val (.int vi133), .val (.int ((vi127 + (1 : Int32)) + vi129)), .unset, .unset, .unset, .unset, .unset] []))
    generalize he134 : ((vi127 + (1 : Int32)) + vi129) = vi134
    show WP p e below _ (T132.setTop (mkF m 42 #[.val (.int p1), .val (.int p2), .val (.int p3), .val (.int p4), .val (.int p5), .val (.int (4 : Int32)), .val (.int vi127), .val (.int vi129), .val (.int vi131), .val (.int vi133), .val (.int vi134), .unset, .unset, .unset, .unset, .unset] []))
    refine own_go (fun t_ k => XS.iload X132.here hx rfl (hb hby at_42) rfl k) ?_
    show WP p e below _ (T132.setTop (mkF m 44 #[.val (.int p1), .val (.int p2), .val (.int p3), .val (.int p4), .val (.int p5), .val (.int (4 : Int32)), .val (.int vi127), .val (.int vi129), .val (.int vi131), .val (.int vi133), .val (.int vi134), .unset, .unset, .unset, .unset, .unset] [(.int vi134)]))
    refine own_go (fun t_ k => XS.iconst X132.here hx rfl (hb hby at_44) k) ?_
    show WP p e below _ (T132.setTop (mkF m 45 #[.val (.int p1), .val (.int p2), .val (.int p3), .val (.int p4), .val (.int p5), .val (.int (4 : Int32)), .val (.int vi127), .val (.int vi129), .val (.int vi131), .val (.int vi133), .val (.int vi134), .unset, .unset, .unset, .unset, .unset] [(.int (1 : Int32)), (.int vi134)]))
    refine own_go (fun t_ k => XS.iadd X132.here hx rfl (hb hby at_45) rfl k) ?_
    show WP p e below _ (T132.setTop (mkF m 46 #[.val (.int p1), .val (.int p2), .val (.int p3), .val (.int p4), .val (.int p5), .val (.int (4 : Int32)), .val (.int vi127), .val (.int vi129), .val (.int vi131), .val (.int vi133), .val (.int vi134), .unset, .unset, .unset, .unset, .unset] [(.int (vi134 + (1 : Int32)))]))
    refine own_go (fun t_ k => XS.iload X132.here hx rfl (hb hby at_46) rfl k) ?_
    show WP p e below _ (T132.setTop (mkF m 48 #[.val (.int p1), .val (.int p2), .val (.int p3), .val (.int p4), .val (.int p5), .val (.int (4 : Int32)), .val (.int vi127), .val (.int vi129), .val (.int vi131), .val (.int vi133), .val (.int vi134), .unset, .unset, .unset, .unset, .unset] [(.int vi131), (.int (vi134 + (1 : Int32)))]))
    refine own_go (fun t_ k => XS.iadd X132.here hx rfl (hb hby at_48) rfl k) ?_
    show WP p e below _ (T132.setTop (mkF m 49 #[.val (.int p1), .val (.int p2), .val (.int p3), .val (.int p4), .val (.int p5), .val (.int (4 : Int32)), .val (.int vi127), .val (.int vi129), .val (.int vi131), .val (.int vi133), .val (.int vi134), .unset, .unset, .unset, .unset, .unset] [(.int ((vi134 + (1 : Int32)) + vi131))]))
    refine own_go (fun t_ k => XS.istore X132.here hx rfl (hb hby at_49) rfl (l' := #[.val (.int p1), .val (.int p2), .val (.int p3), .val (.int p4), .val (.int p5), .val (.int (4 : Int32)), .val (.int vi127), .val (.int vi129), .val (.int vi131), .val (.int vi133), .val (.int vi134), .val (.int ((vi134 + (1 : Int32)) + vi131)), .unset, .unset, .unset, .unset]) rfl k) ?_
    show WP p e below _ (T132.setTop (mkF m 51 #[.val (.int p1), .val (.int p2), .val (.int p3), .val (.int p4), .val (.int p5), .val (.int (4 : Int32)), .val (.int vi127), .val (.int vi129), .val (.int vi131), .val (.int vi133), .val (.int vi134), .val (.int ((vi134 + (1 : Int32)) + vi131)), .unset, .unset, .unset, .unset] []))
    generalize he135 : ((vi134 + (1 : Int32)) + vi131) = vi135
    show WP p e below _ (T132.setTop (mkF m 51 #[.val (.int p1), .val (.int p2), .val (.int p3), .val (.int p4), .val (.int p5), .val (.int (4 : Int32)), .val (.int vi127), .val (.int vi129), .val (.int vi131), .val (.int vi133), .val (.int vi134), .val (.int vi135), .unset, .unset, .unset, .unset] []))
    refine own_go (fun t_ k => XS.iload X132.here hx rfl (hb hby at_51) rfl k) ?_
    show WP p e below _ (T132.setTop (mkF m 53 #[.val (.int p1), .val (.int p2), .val (.int p3), .val (.int p4), .val (.int p5), .val (.int (4 : Int32)), .val (.int vi127), .val (.int vi129), .val (.int vi131), .val (.int vi133), .val (.int vi134), .val (.int vi135), .unset, .unset, .unset, .unset] [(.int vi135)]))
    refine own_go (fun t_ k => XS.iconst X132.here hx rfl (hb hby at_53) k) ?_
    show WP p e below _ (T132.setTop (mkF m 54 #[.val (.int p1), .val (.int p2), .val (.int p3), .val (.int p4), .val (.int p5), .val (.int (4 : Int32)), .val (.int vi127), .val (.int vi129), .val (.int vi131), .val (.int vi133), .val (.int vi134), .val (.int vi135), .unset, .unset, .unset, .unset] [(.int (1 : Int32)), (.int vi135)]))
    refine own_go (fun t_ k => XS.iadd X132.here hx rfl (hb hby at_54) rfl k) ?_
    show WP p e below _ (T132.setTop (mkF m 55 #[.val (.int p1), .val (.int p2), .val (.int p3), .val (.int p4), .val (.int p5), .val (.int (4 : Int32)), .val (.int vi127), .val (.int vi129), .val (.int vi131), .val (.int vi133), .val (.int vi134), .val (.int vi135), .unset, .unset, .unset, .unset] [(.int (vi135 + (1 : Int32)))]))
    refine own_go (fun t_ k => XS.iload X132.here hx rfl (hb hby at_55) rfl k) ?_
    show WP p e below _ (T132.setTop (mkF m 57 #[.val (.int p1), .val (.int p2), .val (.int p3), .val (.int p4), .val (.int p5), .val (.int (4 : Int32)), .val (.int vi127), .val (.int vi129), .val (.int vi131), .val (.int vi133), .val (.int vi134), .val (.int vi135), .unset, .unset, .unset, .unset] [(.int vi133), (.int (vi135 + (1 : Int32)))]))
    refine own_go (fun t_ k => XS.iadd X132.here hx rfl (hb hby at_57) rfl k) ?_
    show WP p e below _ (T132.setTop (mkF m 58 #[.val (.int p1), .val (.int p2), .val (.int p3), .val (.int p4), .val (.int p5), .val (.int (4 : Int32)), .val (.int vi127), .val (.int vi129), .val (.int vi131), .val (.int vi133), .val (.int vi134), .val (.int vi135), .unset, .unset, .unset, .unset] [(.int ((vi135 + (1 : Int32)) + vi133))]))
    refine own_go (fun t_ k => XS.istore X132.here hx rfl (hb hby at_58) rfl (l' := #[.val (.int p1), .val (.int p2), .val (.int p3), .val (.int p4), .val (.int p5), .val (.int (4 : Int32)), .val (.int vi127), .val (.int vi129), .val (.int vi131), .val (.int vi133), .val (.int vi134), .val (.int vi135), .val (.int ((vi135 + (1 : Int32)) + vi133)), .unset, .unset, .unset]) rfl k) ?_
    show WP p e below _ (T132.setTop (mkF m 60 #[.val (.int p1), .val (.int p2), .val (.int p3), .val (.int p4), .val (.int p5), .val (.int (4 : Int32)), .val (.int vi127), .val (.int vi129), .val (.int vi131), .val (.int vi133), .val (.int vi134), .val (.int vi135), .val (.int ((vi135 + (1 : Int32)) + vi133)), .unset, .unset, .unset] []))
    generalize he136 : ((vi135 + (1 : Int32)) + vi133) = vi136
    show WP p e below _ (T132.setTop (mkF m 60 #[.val (.int p1), .val (.int p2), .val (.int p3), .val (.int p4), .val (.int p5), .val (.int (4 : Int32)), .val (.int vi127), .val (.int vi129), .val (.int vi131), .val (.int vi133), .val (.int vi134), .val (.int vi135), .val (.int vi136), .unset, .unset, .unset] []))
    refine own_go (fun t_ k => XS.iload X132.here hx rfl (hb hby at_60) rfl k) ?_
    show WP p e below _ (T132.setTop (mkF m 62 #[.val (.int p1), .val (.int p2), .val (.int p3), .val (.int p4), .val (.int p5), .val (.int (4 : Int32)), .val (.int vi127), .val (.int vi129), .val (.int vi131), .val (.int vi133), .val (.int vi134), .val (.int vi135), .val (.int vi136), .unset, .unset, .unset] [(.int (4 : Int32))]))
    refine own_go (fun t_ k => XS.iconst X132.here hx rfl (hb hby at_62) k) ?_
    show WP p e below _ (T132.setTop (mkF m 63 #[.val (.int p1), .val (.int p2), .val (.int p3), .val (.int p4), .val (.int p5), .val (.int (4 : Int32)), .val (.int vi127), .val (.int vi129), .val (.int vi131), .val (.int vi133), .val (.int vi134), .val (.int vi135), .val (.int vi136), .unset, .unset, .unset] [(.int (1 : Int32)), (.int (4 : Int32))]))
    have hc63_137 : ((1 : Int32) < (4 : Int32)) := by decide
    refine own_go (fun t_ k => XS.icmpYes X132.here hx rfl (pc0 := 63) (pc' := 71) rfl (hb hby at_63) rfl (tlt hc63_137).2.2.1 (by decide) (by decide) k) ?_
    show WP p e below _ (T132.setTop (mkF m 71 #[.val (.int p1), .val (.int p2), .val (.int p3), .val (.int p4), .val (.int p5), .val (.int (4 : Int32)), .val (.int vi127), .val (.int vi129), .val (.int vi131), .val (.int vi133), .val (.int vi134), .val (.int vi135), .val (.int vi136), .unset, .unset, .unset] []))
    refine own_go (fun t_ k => XS.iload X132.here hx rfl (hb hby at_71) rfl k) ?_
    show WP p e below _ (T132.setTop (mkF m 73 #[.val (.int p1), .val (.int p2), .val (.int p3), .val (.int p4), .val (.int p5), .val (.int (4 : Int32)), .val (.int vi127), .val (.int vi129), .val (.int vi131), .val (.int vi133), .val (.int vi134), .val (.int vi135), .val (.int vi136), .unset, .unset, .unset] [(.int (4 : Int32))]))
    refine own_go (fun t_ k => XS.iconst X132.here hx rfl (hb hby at_73) k) ?_
    show WP p e below _ (T132.setTop (mkF m 74 #[.val (.int p1), .val (.int p2), .val (.int p3), .val (.int p4), .val (.int p5), .val (.int (4 : Int32)), .val (.int vi127), .val (.int vi129), .val (.int vi131), .val (.int vi133), .val (.int vi134), .val (.int vi135), .val (.int vi136), .unset, .unset, .unset] [(.int (2 : Int32)), (.int (4 : Int32))]))
    have hc74_138 : ¬ ((4 : Int32) = (2 : Int32)) := by decide
    refine own_go (fun t_ k => XS.icmpYes X132.here hx rfl (pc0 := 74) (pc' := 82) rfl (hb hby at_74) rfl (feq hc74_138).2 (by decide) (by decide) k) ?_
    show WP p e below _ (T132.setTop (mkF m 82 #[.val (.int p1), .val (.int p2), .val (.int p3), .val (.int p4), .val (.int p5), .val (.int (4 : Int32)), .val (.int vi127), .val (.int vi129), .val (.int vi131), .val (.int vi133), .val (.int vi134), .val (.int vi135), .val (.int vi136), .unset, .unset, .unset] []))
    refine own_go (fun t_ k => XS.iload X132.here hx rfl (hb hby at_82) rfl k) ?_
    show WP p e below _ (T132.setTop (mkF m 84 #[.val (.int p1), .val (.int p2), .val (.int p3), .val (.int p4), .val (.int p5), .val (.int (4 : Int32)), .val (.int vi127), .val (.int vi129), .val (.int vi131), .val (.int vi133), .val (.int vi134), .val (.int vi135), .val (.int vi136), .unset, .unset, .unset] [(.int (4 : Int32))]))
    refine own_go (fun t_ k => XS.iconst X132.here hx rfl (hb hby at_84) k) ?_
    show WP p e below _ (T132.setTop (mkF m 85 #[.val (.int p1), .val (.int p2), .val (.int p3), .val (.int p4), .val (.int p5), .val (.int (4 : Int32)), .val (.int vi127), .val (.int vi129), .val (.int vi131), .val (.int vi133), .val (.int vi134), .val (.int vi135), .val (.int vi136), .unset, .unset, .unset] [(.int (3 : Int32)), (.int (4 : Int32))]))
    have hc85_139 : ¬ ((4 : Int32) = (3 : Int32)) := by decide
    refine own_go (fun t_ k => XS.icmpYes X132.here hx rfl (pc0 := 85) (pc' := 93) rfl (hb hby at_85) rfl (feq hc85_139).2 (by decide) (by decide) k) ?_
    show WP p e below _ (T132.setTop (mkF m 93 #[.val (.int p1), .val (.int p2), .val (.int p3), .val (.int p4), .val (.int p5), .val (.int (4 : Int32)), .val (.int vi127), .val (.int vi129), .val (.int vi131), .val (.int vi133), .val (.int vi134), .val (.int vi135), .val (.int vi136), .unset, .unset, .unset] []))
    refine own_go (fun t_ k => XS.iload X132.here hx rfl (hb hby at_93) rfl k) ?_
    show WP p e below _ (T132.setTop (mkF m 95 #[.val (.int p1), .val (.int p2), .val (.int p3), .val (.int p4), .val (.int p5), .val (.int (4 : Int32)), .val (.int vi127), .val (.int vi129), .val (.int vi131), .val (.int vi133), .val (.int vi134), .val (.int vi135), .val (.int vi136), .unset, .unset, .unset] [(.int vi136)]))
    refine own_go (fun t_ k => XS.istore X132.here hx rfl (hb hby at_95) rfl (l' := #[.val (.int p1), .val (.int p2), .val (.int p3), .val (.int p4), .val (.int p5), .val (.int (4 : Int32)), .val (.int vi127), .val (.int vi129), .val (.int vi131), .val (.int vi133), .val (.int vi134), .val (.int vi135), .val (.int vi136), .val (.int vi136), .unset, .unset]) rfl k) ?_
    show WP p e below _ (T132.setTop (mkF m 97 #[.val (.int p1), .val (.int p2), .val (.int p3), .val (.int p4), .val (.int p5), .val (.int (4 : Int32)), .val (.int vi127), .val (.int vi129), .val (.int vi131), .val (.int vi133), .val (.int vi134), .val (.int vi135), .val (.int vi136), .val (.int vi136), .unset, .unset] []))
    refine own_go (fun t_ k => XS.iload X132.here hx rfl (hb hby at_97) rfl k) ?_
    show WP p e below _ (T132.setTop (mkF m 99 #[.val (.int p1), .val (.int p2), .val (.int p3), .val (.int p4), .val (.int p5), .val (.int (4 : Int32)), .val (.int vi127), .val (.int vi129), .val (.int vi131), .val (.int vi133), .val (.int vi134), .val (.int vi135), .val (.int vi136), .val (.int vi136), .unset, .unset] [(.int vi136)]))
    refine own_go (fun t_ k => X132.ldcInt hx hown (mvT hZ (hw _ (List.mem_of_getElem? (i := 1) rfl))) (g := (mkF m 99 #[.val (.int p1), .val (.int p2), .val (.int p3), .val (.int p4), .val (.int p5), .val (.int (4 : Int32)), .val (.int vi127), .val (.int vi129), .val (.int vi131), .val (.int vi133), .val (.int vi134), .val (.int vi135), .val (.int vi136), .val (.int vi136), .unset, .unset] [(.int vi136)])) rfl (hb hby at_99) _ k) ?_
    show WP p e below _ (T132.setTop (mkF m 101 #[.val (.int p1), .val (.int p2), .val (.int p3), .val (.int p4), .val (.int p5), .val (.int (4 : Int32)), .val (.int vi127), .val (.int vi129), .val (.int vi131), .val (.int vi133), .val (.int vi134), .val (.int vi135), .val (.int vi136), .val (.int vi136), .unset, .unset] [(.int (65535 : Int32)), (.int vi136)]))
    by_cases hc101_140 : (65535 : Int32) < vi136
    · refine own_go (fun t_ k => XS.icmpNo X132.here hx rfl (hb hby at_101) rfl (tlt hc101_140).2.2.2 k) ?_
      show WP p e below _ (T132.setTop (mkF m 104 #[.val (.int p1), .val (.int p2), .val (.int p3), .val (.int p4), .val (.int p5), .val (.int (4 : Int32)), .val (.int vi127), .val (.int vi129), .val (.int vi131), .val (.int vi133), .val (.int vi134), .val (.int vi135), .val (.int vi136), .val (.int vi136), .unset, .unset] []))
      refine own_go (fun t_ k => XS.iconst X132.here hx rfl (hb hby at_104) k) ?_
      show WP p e below _ (T132.setTop (mkF m 105 #[.val (.int p1), .val (.int p2), .val (.int p3), .val (.int p4), .val (.int p5), .val (.int (4 : Int32)), .val (.int vi127), .val (.int vi129), .val (.int vi131), .val (.int vi133), .val (.int vi134), .val (.int vi135), .val (.int vi136), .val (.int vi136), .unset, .unset] [(.int (1 : Int32))]))
      exact own_retZ X132 hx Bd.notSynchronized Bd.returns (hb hby at_105) (by decide) (show Q0 n0 _ _ _ from ⟨rfl, N132⟩) (by decide) (by decide)
    · refine own_go (fun t_ k => XS.icmpYes X132.here hx rfl (pc0 := 101) (pc' := 106) rfl (hb hby at_101) rfl (flt hc101_140).2.2.2 (by decide) (by decide) k) ?_
      have bv0 := own_v0 he127
      have bd1 := own_gap he129
      have bv1 := own_next (by omega) (by omega) bd1 he134
      have bd2 := own_gap he131
      have bv2 := own_next (by omega) (by omega) bd2 he135
      have bd3 := own_gap he133
      have bv3 := own_next (by omega) (by omega) bd3 he136
      have bl := hc101_140
      rw [Int32.lt_iff_toInt_lt, show (65535 : Int32).toInt = 65535 from rfl] at bl
      show WP p e below _ (T132.setTop (mkF m 106 #[.val (.int p1), .val (.int p2), .val (.int p3), .val (.int p4), .val (.int p5), .val (.int (4 : Int32)), .val (.int vi127), .val (.int vi129), .val (.int vi131), .val (.int vi133), .val (.int vi134), .val (.int vi135), .val (.int vi136), .val (.int vi136), .unset, .unset] []))
      obtain ⟨T141, h141, X141, e141, E141, A141, D141, -, st141⟩ := newO X132 hx hZ hown (hw _ (List.mem_of_getElem? (i := 6) rfl)) (hw _ (List.mem_of_getElem? (i := 7) rfl)) (hw _ (List.mem_of_getElem? (i := 8) rfl)) e132 (g := (mkF m 106 #[.val (.int p1), .val (.int p2), .val (.int p3), .val (.int p4), .val (.int p5), .val (.int (4 : Int32)), .val (.int vi127), .val (.int vi129), .val (.int vi131), .val (.int vi133), .val (.int vi134), .val (.int vi135), .val (.int vi136), .val (.int vi136), .unset, .unset] [])) rfl (hb hby at_106) (by decide) (by decide)
      obtain ⟨b141, g141⟩ : ∃ z, z = Array.size h0 := ⟨_, rfl⟩
      rw [← g141] at A141 D141 st141
      refine own_go st141 ?_
      have g_b141 : n0 ≤ b141 := Nat.le_trans (Nat.le_trans Z0 (Keep.refl h0 []).1) (Nat.le_of_eq g141.symm)
      have sz_b141 : h0.size ≤ b141 := Nat.le_trans (Keep.refl h0 []).1 (Nat.le_of_eq g141.symm)
      have ne_u_b141 : u ≠ b141 := Nat.ne_of_lt (Nat.lt_of_lt_of_le V_u.lt (Nat.le_of_eq g141.symm))
      have K141 : Keep h0 h141 [] := (Keep.refl h0 []).ext E141
      have F141_occupiedWords : Fld Z h141 b141 "com/example/cairn/cairn/ArrayContainer" "occupiedWords" "[J" .null := D141 (Or.inl (hw _ (List.mem_of_getElem? (i := 23) rfl))) (ty := (.array .long)) (by decide)
      have F141_values : Fld Z h141 b141 "com/example/cairn/cairn/ArrayContainer" "values" "[C" .null := D141 (Or.inl (hw _ (List.mem_of_getElem? (i := 26) rfl))) (ty := (.array .char)) (by decide)
      have F141_cardinality : Fld Z h141 b141 "com/example/cairn/cairn/ArrayContainer" "cardinality" "C" (.int (0 : Int32)) := D141 (Or.inl (hw _ (List.mem_of_getElem? (i := 28) rfl))) (ty := .char) (by decide)
      have F141_shared : Fld Z h141 b141 "com/example/cairn/cairn/Container" "shared" "Z" (.int (0 : Int32)) := D141 (Or.inl (hw _ (List.mem_of_getElem? (i := 41) rfl))) (ty := .boolean) (by decide)
      show WP p e below _ (T141.setTop (mkF m 109 #[.val (.int p1), .val (.int p2), .val (.int p3), .val (.int p4), .val (.int p5), .val (.int (4 : Int32)), .val (.int vi127), .val (.int vi129), .val (.int vi131), .val (.int vi133), .val (.int vi134), .val (.int vi135), .val (.int vi136), .val (.int vi136), .unset, .unset] [(.ref b141)]))
      refine own_go (fun t_ k => XS.dup X141.here hx rfl (hb hby at_109) rfl rfl k) ?_
      show WP p e below _ (T141.setTop (mkF m 110 #[.val (.int p1), .val (.int p2), .val (.int p3), .val (.int p4), .val (.int p5), .val (.int (4 : Int32)), .val (.int vi127), .val (.int vi129), .val (.int vi131), .val (.int vi133), .val (.int vi134), .val (.int vi135), .val (.int vi136), .val (.int vi136), .unset, .unset] [(.ref b141), (.ref b141)]))
      refine own_go (fun t_ k => XS.iload X141.here hx rfl (hb hby at_110) rfl k) ?_
      show WP p e below _ (T141.setTop (mkF m 112 #[.val (.int p1), .val (.int p2), .val (.int p3), .val (.int p4), .val (.int p5), .val (.int (4 : Int32)), .val (.int vi127), .val (.int vi129), .val (.int vi131), .val (.int vi133), .val (.int vi134), .val (.int vi135), .val (.int vi136), .val (.int vi136), .unset, .unset] [(.int vi127), (.ref b141), (.ref b141)]))
      refine own_go (fun t_ k => XS.i2c X141.here hx rfl (hb hby at_112) rfl k) ?_
      show WP p e below _ (T141.setTop (mkF m 113 #[.val (.int p1), .val (.int p2), .val (.int p3), .val (.int p4), .val (.int p5), .val (.int (4 : Int32)), .val (.int vi127), .val (.int vi129), .val (.int vi131), .val (.int vi133), .val (.int vi134), .val (.int vi135), .val (.int vi136), .val (.int vi136), .unset, .unset] [(.int (vi127.toUInt32.toUInt16.toUInt32.toInt32)), (.ref b141), (.ref b141)]))
      obtain ⟨_, _, ⟨T142, L142, k142, n142⟩, -, X142, ⟨Lc142, hQ142, l142, y142, z142⟩, st142⟩ := X141.specialBack hx (y := (⟨"com/example/cairn/cairn/ArrayContainer", "<init>", "(C)V"⟩ : MethodName)) rfl hown (mvT hZ (hw _ (List.mem_of_getElem? (i := 9) rfl))) (mvT hZ (hw _ (List.mem_of_getElem? (i := 10) rfl))) (mvT hZ (hw _ (List.mem_of_getElem? (i := 11) rfl))) (by decide) (backOf (W := 1) (rm2 l Z a0 hw [] b141 (vi127.toUInt32.toUInt16.toUInt32.toInt32) u ku h141 n0 (Nat.le_trans Z0 K141.1) A141 g_b141 F141_values F141_cardinality F141_occupiedWords F141_shared (S_u.ext E141) (V_u.ext E141) ne_u_b141) hZ (hw _ (List.mem_of_getElem? (i := 11) rfl)) (hw _ (List.mem_of_getElem? (i := 8) rfl)) (by decide) (by decide)) (g := (mkF m 113 #[.val (.int p1), .val (.int p2), .val (.int p3), .val (.int p4), .val (.int p5), .val (.int (4 : Int32)), .val (.int vi127), .val (.int vi129), .val (.int vi131), .val (.int vi133), .val (.int vi134), .val (.int vi135), .val (.int vi136), .val (.int vi136), .unset, .unset] [(.int (vi127.toUInt32.toUInt16.toUInt32.toInt32)), (.ref b141), (.ref b141)])) rfl (by rw [hml]; rfl) (Steps.refl _) (a := b141) (argsL := [(.int (vi127.toUInt32.toUInt16.toUInt32.toInt32))]) (rest := [(.ref b141)]) (lenOf pd_8 rfl) rfl (by show 2 * 0 + _ ≤ _; exact Nat.le_of_eq rfl) (hb hby at_113) (fun _ _ => ⟨rfl, e141, (by decide : 1 + 1 ≤ _), (by decide : 4 + 4 ≤ _)⟩)
      dsimp only [Pt.U, Pt.locs, Pt.cells, Pt.slots] at X142 l142 y142 z142 st142 hQ142
      subst l142 y142 z142
      obtain ⟨rfl, N142q, K142c, t142, kk142, gt142, szt142', P142⟩ := hQ142
      have N142 := Fr.app N132 N142q
      replace X142 : Stand p l e room_1 s m _ below meth c T142 _ 2 8 := X142
      refine own_go (fun t_ k => st142.trans k) ?_
      have K142 : Keep h0 T142.heap [] := K141.trans K142c (allS (Or.inr sz_b141) all0)
      have szt142 : h0.size ≤ t142 := Nat.le_trans K141.1 szt142'
      show WP p e below _ (T142.setTop (mkF m 116 #[.val (.int p1), .val (.int p2), .val (.int p3), .val (.int p4), .val (.int p5), .val (.int (4 : Int32)), .val (.int vi127), .val (.int vi129), .val (.int vi131), .val (.int vi133), .val (.int vi134), .val (.int vi135), .val (.int vi136), .val (.int vi136), .unset, .unset] [(.ref b141)]))
      refine own_go (fun t_ k => XS.astore X142.here hx rfl (hb hby at_116) rfl rfl (l' := #[.val (.int p1), .val (.int p2), .val (.int p3), .val (.int p4), .val (.int p5), .val (.int (4 : Int32)), .val (.int vi127), .val (.int vi129), .val (.int vi131), .val (.int vi133), .val (.int vi134), .val (.int vi135), .val (.int vi136), .val (.int vi136), .val (.ref b141), .unset]) rfl k) ?_
      show WP p e below _ (T142.setTop (mkF m 118 #[.val (.int p1), .val (.int p2), .val (.int p3), .val (.int p4), .val (.int p5), .val (.int (4 : Int32)), .val (.int vi127), .val (.int vi129), .val (.int vi131), .val (.int vi133), .val (.int vi134), .val (.int vi135), .val (.int vi136), .val (.int vi136), .val (.ref b141), .unset] []))
      refine own_go (fun t_ k => XS.iload X142.here hx rfl (hb hby at_118) rfl k) ?_
      show WP p e below _ (T142.setTop (mkF m 120 #[.val (.int p1), .val (.int p2), .val (.int p3), .val (.int p4), .val (.int p5), .val (.int (4 : Int32)), .val (.int vi127), .val (.int vi129), .val (.int vi131), .val (.int vi133), .val (.int vi134), .val (.int vi135), .val (.int vi136), .val (.int vi136), .val (.ref b141), .unset] [(.int (4 : Int32))]))
      have hc120_143 : ¬ ((4 : Int32) = (0 : Int32)) := by decide
      refine own_go (fun t_ k => XS.ifYes X142.here hx rfl (pc0 := 120) (pc' := 132) rfl (hb hby at_120) rfl ((if0 _ _).trans (feq hc120_143).2) (by decide) (by decide) k) ?_
      show WP p e below _ (T142.setTop (mkF m 132 #[.val (.int p1), .val (.int p2), .val (.int p3), .val (.int p4), .val (.int p5), .val (.int (4 : Int32)), .val (.int vi127), .val (.int vi129), .val (.int vi131), .val (.int vi133), .val (.int vi134), .val (.int vi135), .val (.int vi136), .val (.int vi136), .val (.ref b141), .unset] []))
      refine own_go (fun t_ k => XS.iload X142.here hx rfl (hb hby at_132) rfl k) ?_
      show WP p e below _ (T142.setTop (mkF m 134 #[.val (.int p1), .val (.int p2), .val (.int p3), .val (.int p4), .val (.int p5), .val (.int (4 : Int32)), .val (.int vi127), .val (.int vi129), .val (.int vi131), .val (.int vi133), .val (.int vi134), .val (.int vi135), .val (.int vi136), .val (.int vi136), .val (.ref b141), .unset] [(.int (4 : Int32))]))
      refine own_go (fun t_ k => XS.iconst X142.here hx rfl (hb hby at_134) k) ?_
      show WP p e below _ (T142.setTop (mkF m 135 #[.val (.int p1), .val (.int p2), .val (.int p3), .val (.int p4), .val (.int p5), .val (.int (4 : Int32)), .val (.int vi127), .val (.int vi129), .val (.int vi131), .val (.int vi133), .val (.int vi134), .val (.int vi135), .val (.int vi136), .val (.int vi136), .val (.ref b141), .unset] [(.int (2 : Int32)), (.int (4 : Int32))]))
      have hc135_144 : ¬ ((4 : Int32) < (2 : Int32)) := by decide
      refine own_go (fun t_ k => XS.icmpNo X142.here hx rfl (hb hby at_135) rfl (flt hc135_144).1 k) ?_
      show WP p e below _ (T142.setTop (mkF m 138 #[.val (.int p1), .val (.int p2), .val (.int p3), .val (.int p4), .val (.int p5), .val (.int (4 : Int32)), .val (.int vi127), .val (.int vi129), .val (.int vi131), .val (.int vi133), .val (.int vi134), .val (.int vi135), .val (.int vi136), .val (.int vi136), .val (.ref b141), .unset] []))
      refine own_go (fun t_ k => XS.aload X142.here hx rfl (hb hby at_138) rfl rfl k) ?_
      show WP p e below _ (T142.setTop (mkF m 140 #[.val (.int p1), .val (.int p2), .val (.int p3), .val (.int p4), .val (.int p5), .val (.int (4 : Int32)), .val (.int vi127), .val (.int vi129), .val (.int vi131), .val (.int vi133), .val (.int vi134), .val (.int vi135), .val (.int vi136), .val (.int vi136), .val (.ref b141), .unset] [(.ref b141)]))
      refine own_go (fun t_ k => XS.iload X142.here hx rfl (hb hby at_140) rfl k) ?_
      show WP p e below _ (T142.setTop (mkF m 142 #[.val (.int p1), .val (.int p2), .val (.int p3), .val (.int p4), .val (.int p5), .val (.int (4 : Int32)), .val (.int vi127), .val (.int vi129), .val (.int vi131), .val (.int vi133), .val (.int vi134), .val (.int vi135), .val (.int vi136), .val (.int vi136), .val (.ref b141), .unset] [(.int vi134), (.ref b141)]))
      refine own_go (fun t_ k => XS.i2c X142.here hx rfl (hb hby at_142) rfl k) ?_
      show WP p e below _ (T142.setTop (mkF m 143 #[.val (.int p1), .val (.int p2), .val (.int p3), .val (.int p4), .val (.int p5), .val (.int (4 : Int32)), .val (.int vi127), .val (.int vi129), .val (.int vi131), .val (.int vi133), .val (.int vi134), .val (.int vi135), .val (.int vi136), .val (.int vi136), .val (.ref b141), .unset] [(.int (vi134.toUInt32.toUInt16.toUInt32.toInt32)), (.ref b141)]))
      obtain ⟨cq145, kq145, q145a, q145b, q145c⟩ := isOf (T := T142) hZ rfl P142.1
      obtain ⟨_, _, ⟨T145, L145, k145, n145⟩, -, X145, ⟨Lc145, hQ145, l145, y145, z145⟩, st145⟩ := X142.virtualBack hx (y := (⟨"com/example/cairn/cairn/ArrayContainer", "add", "(C)Lcom/example/cairn/cairn/Container;"⟩ : MethodName)) (z := (⟨"com/example/cairn/cairn/ArrayContainer", "add", "(C)Lcom/example/cairn/cairn/Container;"⟩ : MethodName)) hown (mvT hZ (hw _ (List.mem_of_getElem? (i := 29) rfl))) (mvT hZ (hw _ (List.mem_of_getElem? (i := 30) rfl))) (notFace_of_selects (args := #[]) (mvT hZ (hw _ (List.mem_of_getElem? (i := 32) rfl)))) (mvT hZ (hw _ (List.mem_of_getElem? (i := 32) rfl))) (mvT hZ (hw _ (List.mem_of_getElem? (i := 31) rfl))) (by decide) (backOf (W := 0) (rm_a1 l Z a0 hw [] b141 (vi134.toUInt32.toUInt16.toUInt32.toInt32) t142 kk142 u ku ((vi127.toUInt32.toUInt16.toUInt32.toInt32).toUInt32.toUInt16.toUInt32.toInt32) (0 : Int32) (0 : Int32) (0 : Int32) T142.heap n0 P142 g_b141 gt142 (by rw [own_c vi127 (by omega) (by omega), own_c vi127 (by omega) (by omega), own_c vi134 (by omega) (by omega)]; rw [Int32.lt_iff_toInt_lt]; omega)) hZ (hw _ (List.mem_of_getElem? (i := 33) rfl)) (hw _ (List.mem_of_getElem? (i := 8) rfl)) (by decide) (by decide)) q145a q145c (g := (mkF m 143 #[.val (.int p1), .val (.int p2), .val (.int p3), .val (.int p4), .val (.int p5), .val (.int (4 : Int32)), .val (.int vi127), .val (.int vi129), .val (.int vi131), .val (.int vi133), .val (.int vi134), .val (.int vi135), .val (.int vi136), .val (.int vi136), .val (.ref b141), .unset] [(.int (vi134.toUInt32.toUInt16.toUInt32.toInt32)), (.ref b141)])) rfl (by rw [hml]; rfl) (Steps.refl _) (argsL := [(.int (vi134.toUInt32.toUInt16.toUInt32.toInt32))]) (rest := []) (lenOf pd_9 rfl) rfl (by show 2 * 0 + _ ≤ _; exact Nat.le_of_eq rfl) (hb hby at_143) (fun _ _ => ⟨rfl, rfl, (by decide : 2 + 0 ≤ _), (by decide : 8 + 0 ≤ _)⟩)
      dsimp only [Pt.U, Pt.locs, Pt.cells, Pt.slots] at X145 l145 y145 z145 st145 hQ145
      subst l145 y145 z145
      obtain ⟨rfl, N145q, K145c, P145⟩ := hQ145
      have N145 := Fr.app N142 N145q
      replace X145 : Stand p l e room_1 s m _ below meth c T145 _ 2 8 := X145
      refine own_go (fun t_ k => st145.trans k) ?_
      have K145 : Keep h0 T145.heap [] := K142.trans K145c (allS (Or.inr sz_b141) (allS (Or.inr szt142) all0))
      show WP p e below _ (T145.setTop (mkF m 146 #[.val (.int p1), .val (.int p2), .val (.int p3), .val (.int p4), .val (.int p5), .val (.int (4 : Int32)), .val (.int vi127), .val (.int vi129), .val (.int vi131), .val (.int vi133), .val (.int vi134), .val (.int vi135), .val (.int vi136), .val (.int vi136), .val (.ref b141), .unset] [(.ref b141)]))
      refine own_go (fun t_ k => XS.pop X145.here hx rfl (hb hby at_146) rfl rfl k) ?_
      show WP p e below _ (T145.setTop (mkF m 147 #[.val (.int p1), .val (.int p2), .val (.int p3), .val (.int p4), .val (.int p5), .val (.int (4 : Int32)), .val (.int vi127), .val (.int vi129), .val (.int vi131), .val (.int vi133), .val (.int vi134), .val (.int vi135), .val (.int vi136), .val (.int vi136), .val (.ref b141), .unset] []))
      refine own_go (fun t_ k => XS.iload X145.here hx rfl (hb hby at_147) rfl k) ?_
      show WP p e below _ (T145.setTop (mkF m 149 #[.val (.int p1), .val (.int p2), .val (.int p3), .val (.int p4), .val (.int p5), .val (.int (4 : Int32)), .val (.int vi127), .val (.int vi129), .val (.int vi131), .val (.int vi133), .val (.int vi134), .val (.int vi135), .val (.int vi136), .val (.int vi136), .val (.ref b141), .unset] [(.int (4 : Int32))]))
      refine own_go (fun t_ k => XS.iconst X145.here hx rfl (hb hby at_149) k) ?_
      show WP p e below _ (T145.setTop (mkF m 150 #[.val (.int p1), .val (.int p2), .val (.int p3), .val (.int p4), .val (.int p5), .val (.int (4 : Int32)), .val (.int vi127), .val (.int vi129), .val (.int vi131), .val (.int vi133), .val (.int vi134), .val (.int vi135), .val (.int vi136), .val (.int vi136), .val (.ref b141), .unset] [(.int (3 : Int32)), (.int (4 : Int32))]))
      have hc150_146 : ¬ ((4 : Int32) < (3 : Int32)) := by decide
      refine own_go (fun t_ k => XS.icmpNo X145.here hx rfl (hb hby at_150) rfl (flt hc150_146).1 k) ?_
      show WP p e below _ (T145.setTop (mkF m 153 #[.val (.int p1), .val (.int p2), .val (.int p3), .val (.int p4), .val (.int p5), .val (.int (4 : Int32)), .val (.int vi127), .val (.int vi129), .val (.int vi131), .val (.int vi133), .val (.int vi134), .val (.int vi135), .val (.int vi136), .val (.int vi136), .val (.ref b141), .unset] []))
      refine own_go (fun t_ k => XS.aload X145.here hx rfl (hb hby at_153) rfl rfl k) ?_
      show WP p e below _ (T145.setTop (mkF m 155 #[.val (.int p1), .val (.int p2), .val (.int p3), .val (.int p4), .val (.int p5), .val (.int (4 : Int32)), .val (.int vi127), .val (.int vi129), .val (.int vi131), .val (.int vi133), .val (.int vi134), .val (.int vi135), .val (.int vi136), .val (.int vi136), .val (.ref b141), .unset] [(.ref b141)]))
      refine own_go (fun t_ k => XS.iload X145.here hx rfl (hb hby at_155) rfl k) ?_
      show WP p e below _ (T145.setTop (mkF m 157 #[.val (.int p1), .val (.int p2), .val (.int p3), .val (.int p4), .val (.int p5), .val (.int (4 : Int32)), .val (.int vi127), .val (.int vi129), .val (.int vi131), .val (.int vi133), .val (.int vi134), .val (.int vi135), .val (.int vi136), .val (.int vi136), .val (.ref b141), .unset] [(.int vi135), (.ref b141)]))
      refine own_go (fun t_ k => XS.i2c X145.here hx rfl (hb hby at_157) rfl k) ?_
      show WP p e below _ (T145.setTop (mkF m 158 #[.val (.int p1), .val (.int p2), .val (.int p3), .val (.int p4), .val (.int p5), .val (.int (4 : Int32)), .val (.int vi127), .val (.int vi129), .val (.int vi131), .val (.int vi133), .val (.int vi134), .val (.int vi135), .val (.int vi136), .val (.int vi136), .val (.ref b141), .unset] [(.int (vi135.toUInt32.toUInt16.toUInt32.toInt32)), (.ref b141)]))
      obtain ⟨cq147, kq147, q147a, q147b, q147c⟩ := isOf (T := T145) hZ rfl P145.1
      obtain ⟨_, _, ⟨T147, L147, k147, n147⟩, -, X147, ⟨Lc147, hQ147, l147, y147, z147⟩, st147⟩ := X145.virtualBack hx (y := (⟨"com/example/cairn/cairn/ArrayContainer", "add", "(C)Lcom/example/cairn/cairn/Container;"⟩ : MethodName)) (z := (⟨"com/example/cairn/cairn/ArrayContainer", "add", "(C)Lcom/example/cairn/cairn/Container;"⟩ : MethodName)) hown (mvT hZ (hw _ (List.mem_of_getElem? (i := 29) rfl))) (mvT hZ (hw _ (List.mem_of_getElem? (i := 30) rfl))) (notFace_of_selects (args := #[]) (mvT hZ (hw _ (List.mem_of_getElem? (i := 32) rfl)))) (mvT hZ (hw _ (List.mem_of_getElem? (i := 32) rfl))) (mvT hZ (hw _ (List.mem_of_getElem? (i := 31) rfl))) (by decide) (backOf (W := 0) (rm_a2 l Z a0 hw [] b141 (vi135.toUInt32.toUInt16.toUInt32.toInt32) t142 kk142 u ku ((vi127.toUInt32.toUInt16.toUInt32.toInt32).toUInt32.toUInt16.toUInt32.toInt32) ((vi134.toUInt32.toUInt16.toUInt32.toInt32).toUInt32.toUInt16.toUInt32.toInt32) (0 : Int32) (0 : Int32) T145.heap n0 P145 g_b141 gt142 (by rw [own_c vi134 (by omega) (by omega), own_c vi134 (by omega) (by omega), own_c vi135 (by omega) (by omega)]; rw [Int32.lt_iff_toInt_lt]; omega)) hZ (hw _ (List.mem_of_getElem? (i := 33) rfl)) (hw _ (List.mem_of_getElem? (i := 8) rfl)) (by decide) (by decide)) q147a q147c (g := (mkF m 158 #[.val (.int p1), .val (.int p2), .val (.int p3), .val (.int p4), .val (.int p5), .val (.int (4 : Int32)), .val (.int vi127), .val (.int vi129), .val (.int vi131), .val (.int vi133), .val (.int vi134), .val (.int vi135), .val (.int vi136), .val (.int vi136), .val (.ref b141), .unset] [(.int (vi135.toUInt32.toUInt16.toUInt32.toInt32)), (.ref b141)])) rfl (by rw [hml]; rfl) (Steps.refl _) (argsL := [(.int (vi135.toUInt32.toUInt16.toUInt32.toInt32))]) (rest := []) (lenOf pd_9 rfl) rfl (by show 2 * 0 + _ ≤ _; exact Nat.le_of_eq rfl) (hb hby at_158) (fun _ _ => ⟨rfl, rfl, (by decide : 2 + 0 ≤ _), (by decide : 8 + 0 ≤ _)⟩)
      dsimp only [Pt.U, Pt.locs, Pt.cells, Pt.slots] at X147 l147 y147 z147 st147 hQ147
      subst l147 y147 z147
      obtain ⟨rfl, N147q, K147c, P147⟩ := hQ147
      have N147 := Fr.app N145 N147q
      replace X147 : Stand p l e room_1 s m _ below meth c T147 _ 2 8 := X147
      refine own_go (fun t_ k => st147.trans k) ?_
      have K147 : Keep h0 T147.heap [] := K145.trans K147c (allS (Or.inr sz_b141) (allS (Or.inr szt142) all0))
      show WP p e below _ (T147.setTop (mkF m 161 #[.val (.int p1), .val (.int p2), .val (.int p3), .val (.int p4), .val (.int p5), .val (.int (4 : Int32)), .val (.int vi127), .val (.int vi129), .val (.int vi131), .val (.int vi133), .val (.int vi134), .val (.int vi135), .val (.int vi136), .val (.int vi136), .val (.ref b141), .unset] [(.ref b141)]))
      refine own_go (fun t_ k => XS.pop X147.here hx rfl (hb hby at_161) rfl rfl k) ?_
      show WP p e below _ (T147.setTop (mkF m 162 #[.val (.int p1), .val (.int p2), .val (.int p3), .val (.int p4), .val (.int p5), .val (.int (4 : Int32)), .val (.int vi127), .val (.int vi129), .val (.int vi131), .val (.int vi133), .val (.int vi134), .val (.int vi135), .val (.int vi136), .val (.int vi136), .val (.ref b141), .unset] []))
      refine own_go (fun t_ k => XS.iload X147.here hx rfl (hb hby at_162) rfl k) ?_
      show WP p e below _ (T147.setTop (mkF m 164 #[.val (.int p1), .val (.int p2), .val (.int p3), .val (.int p4), .val (.int p5), .val (.int (4 : Int32)), .val (.int vi127), .val (.int vi129), .val (.int vi131), .val (.int vi133), .val (.int vi134), .val (.int vi135), .val (.int vi136), .val (.int vi136), .val (.ref b141), .unset] [(.int (4 : Int32))]))
      refine own_go (fun t_ k => XS.iconst X147.here hx rfl (hb hby at_164) k) ?_
      show WP p e below _ (T147.setTop (mkF m 165 #[.val (.int p1), .val (.int p2), .val (.int p3), .val (.int p4), .val (.int p5), .val (.int (4 : Int32)), .val (.int vi127), .val (.int vi129), .val (.int vi131), .val (.int vi133), .val (.int vi134), .val (.int vi135), .val (.int vi136), .val (.int vi136), .val (.ref b141), .unset] [(.int (4 : Int32)), (.int (4 : Int32))]))
      have hc165_148 : ¬ ((4 : Int32) < (4 : Int32)) := by decide
      refine own_go (fun t_ k => XS.icmpNo X147.here hx rfl (hb hby at_165) rfl (flt hc165_148).1 k) ?_
      show WP p e below _ (T147.setTop (mkF m 168 #[.val (.int p1), .val (.int p2), .val (.int p3), .val (.int p4), .val (.int p5), .val (.int (4 : Int32)), .val (.int vi127), .val (.int vi129), .val (.int vi131), .val (.int vi133), .val (.int vi134), .val (.int vi135), .val (.int vi136), .val (.int vi136), .val (.ref b141), .unset] []))
      refine own_go (fun t_ k => XS.aload X147.here hx rfl (hb hby at_168) rfl rfl k) ?_
      show WP p e below _ (T147.setTop (mkF m 170 #[.val (.int p1), .val (.int p2), .val (.int p3), .val (.int p4), .val (.int p5), .val (.int (4 : Int32)), .val (.int vi127), .val (.int vi129), .val (.int vi131), .val (.int vi133), .val (.int vi134), .val (.int vi135), .val (.int vi136), .val (.int vi136), .val (.ref b141), .unset] [(.ref b141)]))
      refine own_go (fun t_ k => XS.iload X147.here hx rfl (hb hby at_170) rfl k) ?_
      show WP p e below _ (T147.setTop (mkF m 172 #[.val (.int p1), .val (.int p2), .val (.int p3), .val (.int p4), .val (.int p5), .val (.int (4 : Int32)), .val (.int vi127), .val (.int vi129), .val (.int vi131), .val (.int vi133), .val (.int vi134), .val (.int vi135), .val (.int vi136), .val (.int vi136), .val (.ref b141), .unset] [(.int vi136), (.ref b141)]))
      refine own_go (fun t_ k => XS.i2c X147.here hx rfl (hb hby at_172) rfl k) ?_
      show WP p e below _ (T147.setTop (mkF m 173 #[.val (.int p1), .val (.int p2), .val (.int p3), .val (.int p4), .val (.int p5), .val (.int (4 : Int32)), .val (.int vi127), .val (.int vi129), .val (.int vi131), .val (.int vi133), .val (.int vi134), .val (.int vi135), .val (.int vi136), .val (.int vi136), .val (.ref b141), .unset] [(.int (vi136.toUInt32.toUInt16.toUInt32.toInt32)), (.ref b141)]))
      obtain ⟨cq149, kq149, q149a, q149b, q149c⟩ := isOf (T := T147) hZ rfl P147.1
      obtain ⟨_, _, ⟨T149, L149, k149, n149⟩, -, X149, ⟨Lc149, hQ149, l149, y149, z149⟩, st149⟩ := X147.virtualBack hx (y := (⟨"com/example/cairn/cairn/ArrayContainer", "add", "(C)Lcom/example/cairn/cairn/Container;"⟩ : MethodName)) (z := (⟨"com/example/cairn/cairn/ArrayContainer", "add", "(C)Lcom/example/cairn/cairn/Container;"⟩ : MethodName)) hown (mvT hZ (hw _ (List.mem_of_getElem? (i := 29) rfl))) (mvT hZ (hw _ (List.mem_of_getElem? (i := 30) rfl))) (notFace_of_selects (args := #[]) (mvT hZ (hw _ (List.mem_of_getElem? (i := 32) rfl)))) (mvT hZ (hw _ (List.mem_of_getElem? (i := 32) rfl))) (mvT hZ (hw _ (List.mem_of_getElem? (i := 31) rfl))) (by decide) (backOf (W := 0) (rm_a3 l Z a0 hw [] b141 (vi136.toUInt32.toUInt16.toUInt32.toInt32) t142 kk142 u ku ((vi127.toUInt32.toUInt16.toUInt32.toInt32).toUInt32.toUInt16.toUInt32.toInt32) ((vi134.toUInt32.toUInt16.toUInt32.toInt32).toUInt32.toUInt16.toUInt32.toInt32) ((vi135.toUInt32.toUInt16.toUInt32.toInt32).toUInt32.toUInt16.toUInt32.toInt32) (0 : Int32) T147.heap n0 P147 g_b141 gt142 (by rw [own_c vi135 (by omega) (by omega), own_c vi135 (by omega) (by omega), own_c vi136 (by omega) (by omega)]; rw [Int32.lt_iff_toInt_lt]; omega)) hZ (hw _ (List.mem_of_getElem? (i := 33) rfl)) (hw _ (List.mem_of_getElem? (i := 8) rfl)) (by decide) (by decide)) q149a q149c (g := (mkF m 173 #[.val (.int p1), .val (.int p2), .val (.int p3), .val (.int p4), .val (.int p5), .val (.int (4 : Int32)), .val (.int vi127), .val (.int vi129), .val (.int vi131), .val (.int vi133), .val (.int vi134), .val (.int vi135), .val (.int vi136), .val (.int vi136), .val (.ref b141), .unset] [(.int (vi136.toUInt32.toUInt16.toUInt32.toInt32)), (.ref b141)])) rfl (by rw [hml]; rfl) (Steps.refl _) (argsL := [(.int (vi136.toUInt32.toUInt16.toUInt32.toInt32))]) (rest := []) (lenOf pd_9 rfl) rfl (by show 2 * 0 + _ ≤ _; exact Nat.le_of_eq rfl) (hb hby at_173) (fun _ _ => ⟨rfl, rfl, (by decide : 2 + 0 ≤ _), (by decide : 8 + 0 ≤ _)⟩)
      dsimp only [Pt.U, Pt.locs, Pt.cells, Pt.slots] at X149 l149 y149 z149 st149 hQ149
      subst l149 y149 z149
      obtain ⟨rfl, N149q, K149c, P149⟩ := hQ149
      have N149 := Fr.app N147 N149q
      replace X149 : Stand p l e room_1 s m _ below meth c T149 _ 2 8 := X149
      refine own_go (fun t_ k => st149.trans k) ?_
      have K149 : Keep h0 T149.heap [] := K147.trans K149c (allS (Or.inr sz_b141) (allS (Or.inr szt142) all0))
      show WP p e below _ (T149.setTop (mkF m 176 #[.val (.int p1), .val (.int p2), .val (.int p3), .val (.int p4), .val (.int p5), .val (.int (4 : Int32)), .val (.int vi127), .val (.int vi129), .val (.int vi131), .val (.int vi133), .val (.int vi134), .val (.int vi135), .val (.int vi136), .val (.int vi136), .val (.ref b141), .unset] [(.ref b141)]))
      refine own_go (fun t_ k => XS.pop X149.here hx rfl (hb hby at_176) rfl rfl k) ?_
      show WP p e below _ (T149.setTop (mkF m 177 #[.val (.int p1), .val (.int p2), .val (.int p3), .val (.int p4), .val (.int p5), .val (.int (4 : Int32)), .val (.int vi127), .val (.int vi129), .val (.int vi131), .val (.int vi133), .val (.int vi134), .val (.int vi135), .val (.int vi136), .val (.int vi136), .val (.ref b141), .unset] []))
      refine own_go (fun t_ k => XS.iload X149.here hx rfl (hb hby at_177) rfl k) ?_
      show WP p e below _ (T149.setTop (mkF m 179 #[.val (.int p1), .val (.int p2), .val (.int p3), .val (.int p4), .val (.int p5), .val (.int (4 : Int32)), .val (.int vi127), .val (.int vi129), .val (.int vi131), .val (.int vi133), .val (.int vi134), .val (.int vi135), .val (.int vi136), .val (.int vi136), .val (.ref b141), .unset] [(.int (4 : Int32))]))
      have hc179_150 : ¬ ((4 : Int32) = (0 : Int32)) := by decide
      refine own_go (fun t_ k => XS.ifYes X149.here hx rfl (pc0 := 179) (pc' := 186) rfl (hb hby at_179) rfl ((if0 _ _).trans (feq hc179_150).2) (by decide) (by decide) k) ?_
      show WP p e below _ (T149.setTop (mkF m 186 #[.val (.int p1), .val (.int p2), .val (.int p3), .val (.int p4), .val (.int p5), .val (.int (4 : Int32)), .val (.int vi127), .val (.int vi129), .val (.int vi131), .val (.int vi133), .val (.int vi134), .val (.int vi135), .val (.int vi136), .val (.int vi136), .val (.ref b141), .unset] []))
      refine own_go (fun t_ k => XS.iconst X149.here hx rfl (hb hby at_186) k) ?_
      show WP p e below _ (T149.setTop (mkF m 187 #[.val (.int p1), .val (.int p2), .val (.int p3), .val (.int p4), .val (.int p5), .val (.int (4 : Int32)), .val (.int vi127), .val (.int vi129), .val (.int vi131), .val (.int vi133), .val (.int vi134), .val (.int vi135), .val (.int vi136), .val (.int vi136), .val (.ref b141), .unset] [(.int (1 : Int32))]))
      refine own_go (fun t_ k => XS.istore X149.here hx rfl (hb hby at_187) rfl (l' := #[.val (.int p1), .val (.int p2), .val (.int p3), .val (.int p4), .val (.int p5), .val (.int (4 : Int32)), .val (.int vi127), .val (.int vi129), .val (.int vi131), .val (.int vi133), .val (.int vi134), .val (.int vi135), .val (.int vi136), .val (.int vi136), .val (.ref b141), .val (.int (1 : Int32))]) rfl k) ?_
      show WP p e below _ (T149.setTop (mkF m 189 #[.val (.int p1), .val (.int p2), .val (.int p3), .val (.int p4), .val (.int p5), .val (.int (4 : Int32)), .val (.int vi127), .val (.int vi129), .val (.int vi131), .val (.int vi133), .val (.int vi134), .val (.int vi135), .val (.int vi136), .val (.int vi136), .val (.ref b141), .val (.int (1 : Int32))] []))
      refine own_go (fun t_ k => XS.iload X149.here hx rfl (hb hby at_189) rfl k) ?_
      show WP p e below _ (T149.setTop (mkF m 191 #[.val (.int p1), .val (.int p2), .val (.int p3), .val (.int p4), .val (.int p5), .val (.int (4 : Int32)), .val (.int vi127), .val (.int vi129), .val (.int vi131), .val (.int vi133), .val (.int vi134), .val (.int vi135), .val (.int vi136), .val (.int vi136), .val (.ref b141), .val (.int (1 : Int32))] [(.int (4 : Int32))]))
      refine own_go (fun t_ k => XS.iconst X149.here hx rfl (hb hby at_191) k) ?_
      show WP p e below _ (T149.setTop (mkF m 192 #[.val (.int p1), .val (.int p2), .val (.int p3), .val (.int p4), .val (.int p5), .val (.int (4 : Int32)), .val (.int vi127), .val (.int vi129), .val (.int vi131), .val (.int vi133), .val (.int vi134), .val (.int vi135), .val (.int vi136), .val (.int vi136), .val (.ref b141), .val (.int (1 : Int32))] [(.int (2 : Int32)), (.int (4 : Int32))]))
      have hc192_151 : ¬ ((4 : Int32) < (2 : Int32)) := by decide
      refine own_go (fun t_ k => XS.icmpNo X149.here hx rfl (hb hby at_192) rfl (flt hc192_151).1 k) ?_
      show WP p e below _ (T149.setTop (mkF m 195 #[.val (.int p1), .val (.int p2), .val (.int p3), .val (.int p4), .val (.int p5), .val (.int (4 : Int32)), .val (.int vi127), .val (.int vi129), .val (.int vi131), .val (.int vi133), .val (.int vi134), .val (.int vi135), .val (.int vi136), .val (.int vi136), .val (.ref b141), .val (.int (1 : Int32))] []))
      refine own_go (fun t_ k => XS.iload X149.here hx rfl (hb hby at_195) rfl k) ?_
      show WP p e below _ (T149.setTop (mkF m 197 #[.val (.int p1), .val (.int p2), .val (.int p3), .val (.int p4), .val (.int p5), .val (.int (4 : Int32)), .val (.int vi127), .val (.int vi129), .val (.int vi131), .val (.int vi133), .val (.int vi134), .val (.int vi135), .val (.int vi136), .val (.int vi136), .val (.ref b141), .val (.int (1 : Int32))] [(.int vi129)]))
      have J154 : ∀ (T154 : State) (ls154 : List Loc) (X154 : Stand p l e room_1 s m #[(.int p1), (.int p2), (.int p3), (.int p4), (.int p5)] below meth c T154 ls154 2 8) (N154 : Fr n0 ls154) (e154 : T154.heap = T149.heap) (z153_L15 : Int32) (hz153_L15 : z153_L15 = (if vi129 = (0 : Int32) then (1 : Int32) else (2 : Int32))), WP p e below (GG (Q0 n0) s room_1.cells room_1.slots) (T154.setTop (mkF m 203 #[.val (.int p1), .val (.int p2), .val (.int p3), .val (.int p4), .val (.int p5), .val (.int (4 : Int32)), .val (.int vi127), .val (.int vi129), .val (.int vi131), .val (.int vi133), .val (.int vi134), .val (.int vi135), .val (.int vi136), .val (.int vi136), .val (.ref b141), .val (.int z153_L15)] [])) := by
        intro T154 ls154 X154 N154 e154 z153_L15 hz153_L15
        show WP p e below _ (T154.setTop (mkF m 203 #[.val (.int p1), .val (.int p2), .val (.int p3), .val (.int p4), .val (.int p5), .val (.int (4 : Int32)), .val (.int vi127), .val (.int vi129), .val (.int vi131), .val (.int vi133), .val (.int vi134), .val (.int vi135), .val (.int vi136), .val (.int vi136), .val (.ref b141), .val (.int z153_L15)] []))
        refine own_go (fun t_ k => XS.iload X154.here hx rfl (hb hby at_203) rfl k) ?_
        show WP p e below _ (T154.setTop (mkF m 205 #[.val (.int p1), .val (.int p2), .val (.int p3), .val (.int p4), .val (.int p5), .val (.int (4 : Int32)), .val (.int vi127), .val (.int vi129), .val (.int vi131), .val (.int vi133), .val (.int vi134), .val (.int vi135), .val (.int vi136), .val (.int vi136), .val (.ref b141), .val (.int z153_L15)] [(.int (4 : Int32))]))
        refine own_go (fun t_ k => XS.iconst X154.here hx rfl (hb hby at_205) k) ?_
        show WP p e below _ (T154.setTop (mkF m 206 #[.val (.int p1), .val (.int p2), .val (.int p3), .val (.int p4), .val (.int p5), .val (.int (4 : Int32)), .val (.int vi127), .val (.int vi129), .val (.int vi131), .val (.int vi133), .val (.int vi134), .val (.int vi135), .val (.int vi136), .val (.int vi136), .val (.ref b141), .val (.int z153_L15)] [(.int (3 : Int32)), (.int (4 : Int32))]))
        have hc206_155 : ¬ ((4 : Int32) < (3 : Int32)) := by decide
        refine own_go (fun t_ k => XS.icmpNo X154.here hx rfl (hb hby at_206) rfl (flt hc206_155).1 k) ?_
        show WP p e below _ (T154.setTop (mkF m 209 #[.val (.int p1), .val (.int p2), .val (.int p3), .val (.int p4), .val (.int p5), .val (.int (4 : Int32)), .val (.int vi127), .val (.int vi129), .val (.int vi131), .val (.int vi133), .val (.int vi134), .val (.int vi135), .val (.int vi136), .val (.int vi136), .val (.ref b141), .val (.int z153_L15)] []))
        refine own_go (fun t_ k => XS.iload X154.here hx rfl (hb hby at_209) rfl k) ?_
        show WP p e below _ (T154.setTop (mkF m 211 #[.val (.int p1), .val (.int p2), .val (.int p3), .val (.int p4), .val (.int p5), .val (.int (4 : Int32)), .val (.int vi127), .val (.int vi129), .val (.int vi131), .val (.int vi133), .val (.int vi134), .val (.int vi135), .val (.int vi136), .val (.int vi136), .val (.ref b141), .val (.int z153_L15)] [(.int vi131)]))
        have J158 : ∀ (T158 : State) (ls158 : List Loc) (X158 : Stand p l e room_1 s m #[(.int p1), (.int p2), (.int p3), (.int p4), (.int p5)] below meth c T158 ls158 2 8) (N158 : Fr n0 ls158) (e158 : T158.heap = T149.heap) (z157_L15 : Int32) (hz157_L15 : z157_L15 = (if vi131 = (0 : Int32) then z153_L15 else (z153_L15 + (1 : Int32)))), WP p e below (GG (Q0 n0) s room_1.cells room_1.slots) (T158.setTop (mkF m 217 #[.val (.int p1), .val (.int p2), .val (.int p3), .val (.int p4), .val (.int p5), .val (.int (4 : Int32)), .val (.int vi127), .val (.int vi129), .val (.int vi131), .val (.int vi133), .val (.int vi134), .val (.int vi135), .val (.int vi136), .val (.int vi136), .val (.ref b141), .val (.int z157_L15)] [])) := by
          intro T158 ls158 X158 N158 e158 z157_L15 hz157_L15
          show WP p e below _ (T158.setTop (mkF m 217 #[.val (.int p1), .val (.int p2), .val (.int p3), .val (.int p4), .val (.int p5), .val (.int (4 : Int32)), .val (.int vi127), .val (.int vi129), .val (.int vi131), .val (.int vi133), .val (.int vi134), .val (.int vi135), .val (.int vi136), .val (.int vi136), .val (.ref b141), .val (.int z157_L15)] []))
          refine own_go (fun t_ k => XS.iload X158.here hx rfl (hb hby at_217) rfl k) ?_
          show WP p e below _ (T158.setTop (mkF m 219 #[.val (.int p1), .val (.int p2), .val (.int p3), .val (.int p4), .val (.int p5), .val (.int (4 : Int32)), .val (.int vi127), .val (.int vi129), .val (.int vi131), .val (.int vi133), .val (.int vi134), .val (.int vi135), .val (.int vi136), .val (.int vi136), .val (.ref b141), .val (.int z157_L15)] [(.int (4 : Int32))]))
          refine own_go (fun t_ k => XS.iconst X158.here hx rfl (hb hby at_219) k) ?_
          show WP p e below _ (T158.setTop (mkF m 220 #[.val (.int p1), .val (.int p2), .val (.int p3), .val (.int p4), .val (.int p5), .val (.int (4 : Int32)), .val (.int vi127), .val (.int vi129), .val (.int vi131), .val (.int vi133), .val (.int vi134), .val (.int vi135), .val (.int vi136), .val (.int vi136), .val (.ref b141), .val (.int z157_L15)] [(.int (4 : Int32)), (.int (4 : Int32))]))
          have hc220_159 : ¬ ((4 : Int32) < (4 : Int32)) := by decide
          refine own_go (fun t_ k => XS.icmpNo X158.here hx rfl (hb hby at_220) rfl (flt hc220_159).1 k) ?_
          show WP p e below _ (T158.setTop (mkF m 223 #[.val (.int p1), .val (.int p2), .val (.int p3), .val (.int p4), .val (.int p5), .val (.int (4 : Int32)), .val (.int vi127), .val (.int vi129), .val (.int vi131), .val (.int vi133), .val (.int vi134), .val (.int vi135), .val (.int vi136), .val (.int vi136), .val (.ref b141), .val (.int z157_L15)] []))
          refine own_go (fun t_ k => XS.iload X158.here hx rfl (hb hby at_223) rfl k) ?_
          show WP p e below _ (T158.setTop (mkF m 225 #[.val (.int p1), .val (.int p2), .val (.int p3), .val (.int p4), .val (.int p5), .val (.int (4 : Int32)), .val (.int vi127), .val (.int vi129), .val (.int vi131), .val (.int vi133), .val (.int vi134), .val (.int vi135), .val (.int vi136), .val (.int vi136), .val (.ref b141), .val (.int z157_L15)] [(.int vi133)]))
          have J162 : ∀ (T162 : State) (ls162 : List Loc) (X162 : Stand p l e room_1 s m #[(.int p1), (.int p2), (.int p3), (.int p4), (.int p5)] below meth c T162 ls162 2 8) (N162 : Fr n0 ls162) (e162 : T162.heap = T149.heap) (z161_L15 : Int32) (hz161_L15 : z161_L15 = (if vi133 = (0 : Int32) then z157_L15 else (z157_L15 + (1 : Int32)))), WP p e below (GG (Q0 n0) s room_1.cells room_1.slots) (T162.setTop (mkF m 231 #[.val (.int p1), .val (.int p2), .val (.int p3), .val (.int p4), .val (.int p5), .val (.int (4 : Int32)), .val (.int vi127), .val (.int vi129), .val (.int vi131), .val (.int vi133), .val (.int vi134), .val (.int vi135), .val (.int vi136), .val (.int vi136), .val (.ref b141), .val (.int z161_L15)] [])) := by
            intro T162 ls162 X162 N162 e162 z161_L15 hz161_L15
            show WP p e below _ (T162.setTop (mkF m 231 #[.val (.int p1), .val (.int p2), .val (.int p3), .val (.int p4), .val (.int p5), .val (.int (4 : Int32)), .val (.int vi127), .val (.int vi129), .val (.int vi131), .val (.int vi133), .val (.int vi134), .val (.int vi135), .val (.int vi136), .val (.int vi136), .val (.ref b141), .val (.int z161_L15)] []))
            refine own_go (fun t_ k => XS.aload X162.here hx rfl (hb hby at_231) rfl rfl k) ?_
            show WP p e below _ (T162.setTop (mkF m 233 #[.val (.int p1), .val (.int p2), .val (.int p3), .val (.int p4), .val (.int p5), .val (.int (4 : Int32)), .val (.int vi127), .val (.int vi129), .val (.int vi131), .val (.int vi133), .val (.int vi134), .val (.int vi135), .val (.int vi136), .val (.int vi136), .val (.ref b141), .val (.int z161_L15)] [(.ref b141)]))
            obtain ⟨cq163, kq163, q163a, q163b, q163c⟩ := isOf (T := T162) hZ e162 P149.1
            obtain ⟨_, _, ⟨T163, L163, k163, n163⟩, -, X163, ⟨Lc163, hQ163, l163, y163, z163⟩, st163⟩ := X162.virtualBack hx (y := (⟨"com/example/cairn/cairn/ArrayContainer", "runCount", "()I"⟩ : MethodName)) (z := (⟨"com/example/cairn/cairn/ArrayContainer", "runCount", "()I"⟩ : MethodName)) hown (mvT hZ (hw _ (List.mem_of_getElem? (i := 42) rfl))) (mvT hZ (hw _ (List.mem_of_getElem? (i := 43) rfl))) (notFace_of_selects (args := #[]) (mvT hZ (hw _ (List.mem_of_getElem? (i := 45) rfl)))) (mvT hZ (hw _ (List.mem_of_getElem? (i := 45) rfl))) (mvT hZ (hw _ (List.mem_of_getElem? (i := 44) rfl))) (by decide) (backOf (W := 0) (rm_rc4 l Z a0 hw [] b141 t142 kk142 u ku ((vi127.toUInt32.toUInt16.toUInt32.toInt32).toUInt32.toUInt16.toUInt32.toInt32) ((vi134.toUInt32.toUInt16.toUInt32.toInt32).toUInt32.toUInt16.toUInt32.toInt32) ((vi135.toUInt32.toUInt16.toUInt32.toInt32).toUInt32.toUInt16.toUInt32.toInt32) ((vi136.toUInt32.toUInt16.toUInt32.toInt32).toUInt32.toUInt16.toUInt32.toInt32) T149.heap n0 P149) hZ (hw _ (List.mem_of_getElem? (i := 46) rfl)) (hw _ (List.mem_of_getElem? (i := 8) rfl)) (by decide) (by decide)) q163a q163c (g := (mkF m 233 #[.val (.int p1), .val (.int p2), .val (.int p3), .val (.int p4), .val (.int p5), .val (.int (4 : Int32)), .val (.int vi127), .val (.int vi129), .val (.int vi131), .val (.int vi133), .val (.int vi134), .val (.int vi135), .val (.int vi136), .val (.int vi136), .val (.ref b141), .val (.int z161_L15)] [(.ref b141)])) rfl (by rw [hml]; rfl) (Steps.refl _) (argsL := []) (rest := []) (lenOf pd_10 rfl) rfl (by show 2 * 0 + _ ≤ _; exact Nat.le_of_eq rfl) (hb hby at_233) (fun _ _ => ⟨rfl, e162, (by decide : 2 + 0 ≤ _), (by decide : 8 + 0 ≤ _)⟩)
            dsimp only [Pt.U, Pt.locs, Pt.cells, Pt.slots] at X163 l163 y163 z163 st163 hQ163
            subst l163 y163 z163
            obtain ⟨rfl, N163q, e163⟩ := hQ163
            have N163 := Fr.app N162 N163q
            replace X163 : Stand p l e room_1 s m _ below meth c T163 _ 2 8 := X163
            refine own_go (fun t_ k => st163.trans k) ?_
            show WP p e below _ (T163.setTop (mkF m 236 #[.val (.int p1), .val (.int p2), .val (.int p3), .val (.int p4), .val (.int p5), .val (.int (4 : Int32)), .val (.int vi127), .val (.int vi129), .val (.int vi131), .val (.int vi133), .val (.int vi134), .val (.int vi135), .val (.int vi136), .val (.int vi136), .val (.ref b141), .val (.int z161_L15)] [(.int (rc4 ((vi127.toUInt32.toUInt16.toUInt32.toInt32).toUInt32.toUInt16.toUInt32.toInt32) ((vi134.toUInt32.toUInt16.toUInt32.toInt32).toUInt32.toUInt16.toUInt32.toInt32) ((vi135.toUInt32.toUInt16.toUInt32.toInt32).toUInt32.toUInt16.toUInt32.toInt32) ((vi136.toUInt32.toUInt16.toUInt32.toInt32).toUInt32.toUInt16.toUInt32.toInt32)))]))
            generalize he164 : (rc4 ((vi127.toUInt32.toUInt16.toUInt32.toInt32).toUInt32.toUInt16.toUInt32.toInt32) ((vi134.toUInt32.toUInt16.toUInt32.toInt32).toUInt32.toUInt16.toUInt32.toInt32) ((vi135.toUInt32.toUInt16.toUInt32.toInt32).toUInt32.toUInt16.toUInt32.toInt32) ((vi136.toUInt32.toUInt16.toUInt32.toInt32).toUInt32.toUInt16.toUInt32.toInt32)) = vi164
            show WP p e below _ (T163.setTop (mkF m 236 #[.val (.int p1), .val (.int p2), .val (.int p3), .val (.int p4), .val (.int p5), .val (.int (4 : Int32)), .val (.int vi127), .val (.int vi129), .val (.int vi131), .val (.int vi133), .val (.int vi134), .val (.int vi135), .val (.int vi136), .val (.int vi136), .val (.ref b141), .val (.int z161_L15)] [(.int vi164)]))
            refine own_go (fun t_ k => XS.iload X163.here hx rfl (hb hby at_236) rfl k) ?_
            show WP p e below _ (T163.setTop (mkF m 238 #[.val (.int p1), .val (.int p2), .val (.int p3), .val (.int p4), .val (.int p5), .val (.int (4 : Int32)), .val (.int vi127), .val (.int vi129), .val (.int vi131), .val (.int vi133), .val (.int vi134), .val (.int vi135), .val (.int vi136), .val (.int vi136), .val (.ref b141), .val (.int z161_L15)] [(.int z161_L15), (.int vi164)]))
            have J167 : ∀ (T167 : State) (ls167 : List Loc) (X167 : Stand p l e room_1 s m #[(.int p1), (.int p2), (.int p3), (.int p4), (.int p5)] below meth c T167 ls167 2 8) (N167 : Fr n0 ls167) (e167 : T167.heap = T149.heap) (z166_S0 : Int32) (hz166_S0 : z166_S0 = (if vi164 = z161_L15 then (1 : Int32) else (0 : Int32))), WP p e below (GG (Q0 n0) s room_1.cells room_1.slots) (T167.setTop (mkF m 246 #[.val (.int p1), .val (.int p2), .val (.int p3), .val (.int p4), .val (.int p5), .val (.int (4 : Int32)), .val (.int vi127), .val (.int vi129), .val (.int vi131), .val (.int vi133), .val (.int vi134), .val (.int vi135), .val (.int vi136), .val (.int vi136), .val (.ref b141), .val (.int z161_L15)] [(.int z166_S0)])) := by
              intro T167 ls167 X167 N167 e167 z166_S0 hz166_S0
              show WP p e below _ (T167.setTop (mkF m 246 #[.val (.int p1), .val (.int p2), .val (.int p3), .val (.int p4), .val (.int p5), .val (.int (4 : Int32)), .val (.int vi127), .val (.int vi129), .val (.int vi131), .val (.int vi133), .val (.int vi134), .val (.int vi135), .val (.int vi136), .val (.int vi136), .val (.ref b141), .val (.int z161_L15)] [(.int z166_S0)]))
              exact own_retZ X167 hx Bd.notSynchronized Bd.returns (hb hby at_246) (by rw [hz166_S0]; (repeat' split); all_goals first | exact Or.inl rfl | exact Or.inr rfl) (show Q0 n0 _ _ _ from ⟨congrArg (fun z => some (Value.int z)) (own_law_5 (p1 := p1) (p2 := p2) (p3 := p3) (p4 := p4) (p5 := p5) he1 he127 he129 he131 he133 he134 he135 he136 hz153_L15 hz157_L15 hz161_L15 he164 hz166_S0 hc101_140), N167⟩) (by decide) (by decide)
            by_cases hc238_165 : vi164 = z161_L15
            · refine own_go (fun t_ k => XS.icmpNo X163.here hx rfl (hb hby at_238) rfl (teq hc238_165).2 k) ?_
              show WP p e below _ (T163.setTop (mkF m 241 #[.val (.int p1), .val (.int p2), .val (.int p3), .val (.int p4), .val (.int p5), .val (.int (4 : Int32)), .val (.int vi127), .val (.int vi129), .val (.int vi131), .val (.int vi133), .val (.int vi134), .val (.int vi135), .val (.int vi136), .val (.int vi136), .val (.ref b141), .val (.int z161_L15)] []))
              refine own_go (fun t_ k => XS.iconst X163.here hx rfl (hb hby at_241) k) ?_
              show WP p e below _ (T163.setTop (mkF m 242 #[.val (.int p1), .val (.int p2), .val (.int p3), .val (.int p4), .val (.int p5), .val (.int (4 : Int32)), .val (.int vi127), .val (.int vi129), .val (.int vi131), .val (.int vi133), .val (.int vi134), .val (.int vi135), .val (.int vi136), .val (.int vi136), .val (.ref b141), .val (.int z161_L15)] [(.int (1 : Int32))]))
              refine own_go (fun t_ k => XS.goto X163.here hx rfl (pc0 := 242) (pc' := 246) rfl (hb hby at_242) (by decide) (by decide) k) ?_
              show WP p e below _ (T163.setTop (mkF m 246 #[.val (.int p1), .val (.int p2), .val (.int p3), .val (.int p4), .val (.int p5), .val (.int (4 : Int32)), .val (.int vi127), .val (.int vi129), .val (.int vi131), .val (.int vi133), .val (.int vi134), .val (.int vi135), .val (.int vi136), .val (.int vi136), .val (.ref b141), .val (.int z161_L15)] [(.int (1 : Int32))]))
              exact J167 T163 _ X163 N163 e163 _ (by rw [if_pos hc238_165])
            · refine own_go (fun t_ k => XS.icmpYes X163.here hx rfl (pc0 := 238) (pc' := 245) rfl (hb hby at_238) rfl (feq hc238_165).2 (by decide) (by decide) k) ?_
              show WP p e below _ (T163.setTop (mkF m 245 #[.val (.int p1), .val (.int p2), .val (.int p3), .val (.int p4), .val (.int p5), .val (.int (4 : Int32)), .val (.int vi127), .val (.int vi129), .val (.int vi131), .val (.int vi133), .val (.int vi134), .val (.int vi135), .val (.int vi136), .val (.int vi136), .val (.ref b141), .val (.int z161_L15)] []))
              refine own_go (fun t_ k => XS.iconst X163.here hx rfl (hb hby at_245) k) ?_
              show WP p e below _ (T163.setTop (mkF m 246 #[.val (.int p1), .val (.int p2), .val (.int p3), .val (.int p4), .val (.int p5), .val (.int (4 : Int32)), .val (.int vi127), .val (.int vi129), .val (.int vi131), .val (.int vi133), .val (.int vi134), .val (.int vi135), .val (.int vi136), .val (.int vi136), .val (.ref b141), .val (.int z161_L15)] [(.int (0 : Int32))]))
              exact J167 T163 _ X163 N163 e163 _ (by rw [if_neg hc238_165])
          by_cases hc225_160 : vi133 = (0 : Int32)
          · refine own_go (fun t_ k => XS.ifYes X158.here hx rfl (pc0 := 225) (pc' := 231) rfl (hb hby at_225) rfl ((if0 _ _).trans (teq hc225_160).1) (by decide) (by decide) k) ?_
            show WP p e below _ (T158.setTop (mkF m 231 #[.val (.int p1), .val (.int p2), .val (.int p3), .val (.int p4), .val (.int p5), .val (.int (4 : Int32)), .val (.int vi127), .val (.int vi129), .val (.int vi131), .val (.int vi133), .val (.int vi134), .val (.int vi135), .val (.int vi136), .val (.int vi136), .val (.ref b141), .val (.int z157_L15)] []))
            exact J162 T158 _ X158 N158 e158 _ (by rw [if_pos hc225_160])
          · refine own_go (fun t_ k => XS.ifNo X158.here hx rfl (hb hby at_225) rfl ((if0 _ _).trans (feq hc225_160).1) k) ?_
            show WP p e below _ (T158.setTop (mkF m 228 #[.val (.int p1), .val (.int p2), .val (.int p3), .val (.int p4), .val (.int p5), .val (.int (4 : Int32)), .val (.int vi127), .val (.int vi129), .val (.int vi131), .val (.int vi133), .val (.int vi134), .val (.int vi135), .val (.int vi136), .val (.int vi136), .val (.ref b141), .val (.int z157_L15)] []))
            refine own_go (fun t_ k => XS.iinc X158.here hx rfl (hb hby at_228) rfl (l' := #[.val (.int p1), .val (.int p2), .val (.int p3), .val (.int p4), .val (.int p5), .val (.int (4 : Int32)), .val (.int vi127), .val (.int vi129), .val (.int vi131), .val (.int vi133), .val (.int vi134), .val (.int vi135), .val (.int vi136), .val (.int vi136), .val (.ref b141), .val (.int (z157_L15 + (1 : Int32)))]) rfl k) ?_
            show WP p e below _ (T158.setTop (mkF m 231 #[.val (.int p1), .val (.int p2), .val (.int p3), .val (.int p4), .val (.int p5), .val (.int (4 : Int32)), .val (.int vi127), .val (.int vi129), .val (.int vi131), .val (.int vi133), .val (.int vi134), .val (.int vi135), .val (.int vi136), .val (.int vi136), .val (.ref b141), .val (.int (z157_L15 + (1 : Int32)))] []))
            exact J162 T158 _ X158 N158 e158 _ (by rw [if_neg hc225_160])
        by_cases hc211_156 : vi131 = (0 : Int32)
        · refine own_go (fun t_ k => XS.ifYes X154.here hx rfl (pc0 := 211) (pc' := 217) rfl (hb hby at_211) rfl ((if0 _ _).trans (teq hc211_156).1) (by decide) (by decide) k) ?_
          show WP p e below _ (T154.setTop (mkF m 217 #[.val (.int p1), .val (.int p2), .val (.int p3), .val (.int p4), .val (.int p5), .val (.int (4 : Int32)), .val (.int vi127), .val (.int vi129), .val (.int vi131), .val (.int vi133), .val (.int vi134), .val (.int vi135), .val (.int vi136), .val (.int vi136), .val (.ref b141), .val (.int z153_L15)] []))
          exact J158 T154 _ X154 N154 e154 _ (by rw [if_pos hc211_156])
        · refine own_go (fun t_ k => XS.ifNo X154.here hx rfl (hb hby at_211) rfl ((if0 _ _).trans (feq hc211_156).1) k) ?_
          show WP p e below _ (T154.setTop (mkF m 214 #[.val (.int p1), .val (.int p2), .val (.int p3), .val (.int p4), .val (.int p5), .val (.int (4 : Int32)), .val (.int vi127), .val (.int vi129), .val (.int vi131), .val (.int vi133), .val (.int vi134), .val (.int vi135), .val (.int vi136), .val (.int vi136), .val (.ref b141), .val (.int z153_L15)] []))
          refine own_go (fun t_ k => XS.iinc X154.here hx rfl (hb hby at_214) rfl (l' := #[.val (.int p1), .val (.int p2), .val (.int p3), .val (.int p4), .val (.int p5), .val (.int (4 : Int32)), .val (.int vi127), .val (.int vi129), .val (.int vi131), .val (.int vi133), .val (.int vi134), .val (.int vi135), .val (.int vi136), .val (.int vi136), .val (.ref b141), .val (.int (z153_L15 + (1 : Int32)))]) rfl k) ?_
          show WP p e below _ (T154.setTop (mkF m 217 #[.val (.int p1), .val (.int p2), .val (.int p3), .val (.int p4), .val (.int p5), .val (.int (4 : Int32)), .val (.int vi127), .val (.int vi129), .val (.int vi131), .val (.int vi133), .val (.int vi134), .val (.int vi135), .val (.int vi136), .val (.int vi136), .val (.ref b141), .val (.int (z153_L15 + (1 : Int32)))] []))
          exact J158 T154 _ X154 N154 e154 _ (by rw [if_neg hc211_156])
      by_cases hc197_152 : vi129 = (0 : Int32)
      · refine own_go (fun t_ k => XS.ifYes X149.here hx rfl (pc0 := 197) (pc' := 203) rfl (hb hby at_197) rfl ((if0 _ _).trans (teq hc197_152).1) (by decide) (by decide) k) ?_
        show WP p e below _ (T149.setTop (mkF m 203 #[.val (.int p1), .val (.int p2), .val (.int p3), .val (.int p4), .val (.int p5), .val (.int (4 : Int32)), .val (.int vi127), .val (.int vi129), .val (.int vi131), .val (.int vi133), .val (.int vi134), .val (.int vi135), .val (.int vi136), .val (.int vi136), .val (.ref b141), .val (.int (1 : Int32))] []))
        exact J154 T149 _ X149 N149 rfl _ (by rw [if_pos hc197_152])
      · refine own_go (fun t_ k => XS.ifNo X149.here hx rfl (hb hby at_197) rfl ((if0 _ _).trans (feq hc197_152).1) k) ?_
        show WP p e below _ (T149.setTop (mkF m 200 #[.val (.int p1), .val (.int p2), .val (.int p3), .val (.int p4), .val (.int p5), .val (.int (4 : Int32)), .val (.int vi127), .val (.int vi129), .val (.int vi131), .val (.int vi133), .val (.int vi134), .val (.int vi135), .val (.int vi136), .val (.int vi136), .val (.ref b141), .val (.int (1 : Int32))] []))
        refine own_go (fun t_ k => XS.iinc X149.here hx rfl (hb hby at_200) rfl (l' := #[.val (.int p1), .val (.int p2), .val (.int p3), .val (.int p4), .val (.int p5), .val (.int (4 : Int32)), .val (.int vi127), .val (.int vi129), .val (.int vi131), .val (.int vi133), .val (.int vi134), .val (.int vi135), .val (.int vi136), .val (.int vi136), .val (.ref b141), .val (.int (2 : Int32))]) rfl k) ?_
        show WP p e below _ (T149.setTop (mkF m 203 #[.val (.int p1), .val (.int p2), .val (.int p3), .val (.int p4), .val (.int p5), .val (.int (4 : Int32)), .val (.int vi127), .val (.int vi129), .val (.int vi131), .val (.int vi133), .val (.int vi134), .val (.int vi135), .val (.int vi136), .val (.int vi136), .val (.ref b141), .val (.int (2 : Int32))] []))
        exact J154 T149 _ X149 N149 rfl _ (by rw [if_neg hc197_152])
theorem own_unmet {s : State} {args : Array Value} {t : Term} {u : Addr} {cl : Cell} (hfit : Fit s) (A : Arr s s.heap u cl .long) (eu : t.eval args s none [] s = some (.ref u)) (h : (Cond.eq (Term.length t) (Term.int (0 : Int32))).value args s none s [] = some true) : Arv s s.heap u cl.cls .long (0 : Int32) [] (.long (0 : Int64)) := by
  have hl : (Term.length t).eval args s none [] s = some (.int (0 : Int32)) := Cond.eq_int (beq_iff_eq.mpr h) rfl
  have ha : s.arrayAt? u = some cl := A.fin (Vm.Alike.refl _)
  by_cases q : cl.slots.size < 2 ^ 31
  · have e := len_f eu ha q
    have e2 : cl.slots.size.toInt32 = (0 : Int32) := by
      have := e.symm.trans hl
      injection this with this
      injection this
    exact Arv.start hfit A q e2 (by decide) rfl trivial
  · exfalso
    simp [Term.eval, eu, ha, q] at hl
set_option maxRecDepth 65536 in
set_option maxHeartbeats 40000000 in
theorem comes_1 {Post : Tables → Env → Array Value → State → Outcome → State → Prop} (hpost : ∀ tb e args s v u, (limb_1_1.after args s (.returned v) u = true ∧ limb_1_2.after args s (.returned v) u = true ∧ True) → FrameEnd s (.returned v) u (Jvm.fieldLocs frame_1_writes args s ++ Jvm.arrayLocs frame_1_arrays args s ++ Jvm.staticLocs frame_1_statics s) 16 128 → Post tb e args s (.returned v) u) :
    ArmFor flags0 classFile x code maxLocals ret World_1 tables_1 room_1 Calls_1 rest_1 Pre_1 Post := by
  intro l hfl _ _ p e ha hc hk s m args below hf hA hF happ hP
  obtain ⟨hcalls, hrest, hpre⟩ := hP
  obtain ⟨-, -, -, hnamed, -, -, -, hat⟩ := (Spec.applies_iff hf).mp happ
  obtain ⟨hg, hn⟩ := and_e (Cond.before_iff.mp (show (Jvm.Cond.and given_1 narrow_1).before args s = true from hpre))
  obtain ⟨g1, g2⟩ := and_e hg
  obtain ⟨g3, g4⟩ := and_e g2
  obtain ⟨g5, g6⟩ := and_e g4
  obtain ⟨g7, g8⟩ := and_e g6
  obtain ⟨g9, g10⟩ := and_e g8
  obtain ⟨w0, w1, w2, w3, w4, rfl⟩ : ∃ w0 w1 w2 w3 w4 : Value, args = #[w0, w1, w2, w3, w4] := by
    have hs : args.size = 5 := by simpa [Cond.value, given_1] using g1
    obtain ⟨L⟩ := args
    match L, hs with
    | [w0, w1, w2, w3, w4], _ => exact ⟨w0, w1, w2, w3, w4, rfl⟩
  have hw := fun d (hd : d ∈ tables_1) => atoms_spec (ws := Jvm.Cond.code x code maxLocals ret :: tables_1) hat d (List.mem_cons_of_mem _ hd)
  have hfit : Fit s := fun {y c} hc i hi => by
    obtain ⟨ha, rfl⟩ := Array.getElem?_eq_some_iff.mp hc
    have q := List.all_eq_true.mp ((Array.all_eq_true_iff_forall_mem.mp hF) _ (Array.getElem_mem ha)) i (List.mem_range.mpr hi)
    simpa [Array.getElem?_eq_getElem hi] using q
  obtain ⟨i0, ei0⟩ := is_v g3
  obtain rfl : w0 = (.int i0) := Option.some.inj ei0
  obtain ⟨i1, ei1⟩ := is_v g5
  obtain rfl : w1 = (.int i1) := Option.some.inj ei1
  obtain ⟨i2, ei2⟩ := is_v g7
  obtain rfl : w2 = (.int i2) := Option.some.inj ei2
  obtain ⟨i3, ei3⟩ := is_v g9
  obtain rfl : w3 = (.int i3) := Option.some.inj ei3
  obtain ⟨i4, ei4⟩ := is_v g10
  obtain rfl : w4 = (.int i4) := Option.some.inj ei4
  obtain ⟨m1, m2⟩ := and_e hn
  obtain ⟨u, eu⟩ := arr_v m1
  have Su := Sta.start eu (Or.inr ⟨(hw _ (List.mem_of_getElem? (i := 8) rfl)), (hw _ (List.mem_of_getElem? (i := 21) rfl))⟩)
  obtain ⟨clu, Au⟩ := Arr.start eu m1
  have Vu : Arv s s.heap u clu.cls .long (0 : Int32) [] (.long (0 : Int64)) := own_unmet hfit Au eu m2
  obtain ⟨n, o, h1, h2, h3, _, L, rfl, ⟨rfl, N⟩, hq⟩ := rm0 l s _ hw tables_1 i0 i1 i2 i3 i4 u clu.cls s.heap s.heap.size (Nat.le_refl _) Su Vu p e ha hc hk s m _ below hf ((Spec.applies_iff_loose hf).mp happ).1 ⟨rfl, State.Warmed39.refl s, rfl⟩ trivial
  refine ⟨n, _, h1, h2, h3, hpost _ _ _ _ _ _ ⟨Cond.after_iff.mpr rfl, Cond.after_iff.mpr (eq_i res_at (Term.int_eval (1)) rfl), trivial⟩ ⟨hq.1, hq.2.1, (hq.2.2.sift fun y hy => Or.inr (N y hy)).mono (by decide) (by decide)⟩⟩
theorem main_1_1 : Claimed_1_1 := comes_1 fun _ _ _ _ _ _ h hF => ⟨h.1, hF⟩
theorem main_1_2 : Claimed_1_2 := comes_1 fun _ _ _ _ _ _ h hF => ⟨h.2.1, hF⟩
end Jvm.Pilot.@@N@@
namespace Jvm.Pilot.@@N@@
open Jvm Jvm.ClassFile Sem Op Lib Jvm.Free Jvm.Stand Jvm.Pilot.@@N@@.Jvm.D
/-! MADE BY PROGRAM (witnessworld.py) out of the Statement's table words and the real class files: 18 classes; the members and pool entries that the words name. The judged class is class 1, her method 1. -/
namespace start1
open Jvm.ClassFile
def u (s : String) : CpInfo := .utf8 (stringToUtf16 s)
/-- a pool by its gaps: so many unusable entries, then the entry; so many at the end -/
def gap : Nat → List CpInfo → List CpInfo
  | 0, r => r
  | n + 1, r => .unusable :: gap n r
def poolList (es : List (Nat × CpInfo)) (last : Nat) : List CpInfo := es.foldr (fun e r => gap e.1 (e.2 :: r)) (gap last [])
def pool (es : List (Nat × CpInfo)) (last : Nat) : Array CpInfo := ⟨poolList es last⟩
def fileOf (pool : Array CpInfo) (this : Nat) (attrs : Array Attribute := #[]) (ms : Array MethodInfo := #[]) (fl : Nat := 33) (sup : Nat := 0) (ifs : Array Nat := #[]) (fds : Array FieldInfo := #[]) : ClassFile where
  minorVersion := 0
  majorVersion := 65
  constantPool := pool
  accessFlags := fl
  thisClass := this
  superClass := sup
  interfaces := ifs
  fields := fds
  methods := ms
  attributes := attrs
def plain (name : String) (sup : Option ClassId) : Class where
  name := name
  kind := .ordinary
  loader := none
  accessFlags := 33
  super := sup
  interfaces := #[]
  cf := none
  fields := #[]
  methods := #[]
  instanceTypes := #[]
  staticTypes := #[]
  resolved := #[]
  callSites := []
  init := .initialized
  statics := none
  mirror := none

def pool0 : Array CpInfo := pool [(5, u "<init>"), (0, u "()V"), (1, .class_ 10), (1, u "java/lang/Object")] 113

def k0c0 : Code := { maxStack := 0, maxLocals := 1, code := object_method_1_code, exceptionTable := #[], attributes := #[] }
def k0m0 : Method := { name := "<init>", desc := "()V", sig := { parameters := [], returnType := none }, accessFlags := 1, code := some k0c0 }
/-- java/lang/Object -/
def k0 : Class := { plain "java/lang/Object" none with
  accessFlags := 33
  interfaces := #[]
  cf := some (fileOf pool0 8 #[] #[{ accessFlags := 1, nameIndex := 5, descriptorIndex := 6, attributes := #[] }] 33 0 #[] #[])
  fields := #[]
  methods := #[k0m0]
  instanceTypes := #[]
  staticTypes := #[]
  resolved := Array.replicate 124 none
  statics := none }

def pool1 : Array CpInfo := pool [(2, .class_ 4), (1, u "java/lang/Object"), (0, u "<init>"), (0, u "()V"), (0, .integer 2147483647), (0, .integer 65535), (0, .methodref 10 11), (0, .class_ 12), (0, .nameAndType 13 14), (0, u "com/example/cairn/cairn/ArrayContainerRunCountPinLaw"), (0, u "gap"), (0, u "(I)I"), (0, .class_ 16), (0, u "com/example/cairn/cairn/ArrayContainer"), (0, .methodref 15 18), (0, .nameAndType 5 19), (0, u "(C)V"), (0, .methodref 15 21), (0, .nameAndType 22 23), (0, u "remove"), (0, u "(C)Lcom/example/cairn/cairn/Container;"), (0, .methodref 15 25), (0, .nameAndType 26 23), (0, u "add"), (0, .methodref 15 28), (0, .nameAndType 29 30), (0, u "runCount"), (0, u "()I"), (2, u "law"), (0, u "(IIIII)Z")] 3

def k1m0 : Method := { name := "<init>", desc := "()V", sig := { parameters := [], returnType := none }, accessFlags := 1, code := none }
def k1c1 : Code := { maxStack := 3, maxLocals := 16, code := code, exceptionTable := #[], attributes := #[] }
def k1m1 : Method := { name := "law", desc := "(IIIII)Z", sig := { parameters := [.int, .int, .int, .int, .int], returnType := some .boolean }, accessFlags := 9, code := some k1c1 }
def k1c2 : Code := { maxStack := 2, maxLocals := 1, code := method_3_code, exceptionTable := #[], attributes := #[] }
def k1m2 : Method := { name := "gap", desc := "(I)I", sig := { parameters := [.int], returnType := some .int }, accessFlags := 10, code := some k1c2 }
/-- com/example/cairn/cairn/ArrayContainerRunCountPinLaw -/
def k1 : Class := { plain "com/example/cairn/cairn/ArrayContainerRunCountPinLaw" (some 0) with
  accessFlags := 49
  interfaces := #[]
  cf := some (fileOf pool1 10 #[] #[{ accessFlags := 1, nameIndex := 5, descriptorIndex := 6, attributes := #[] }, { accessFlags := 9, nameIndex := 33, descriptorIndex := 34, attributes := #[] }, { accessFlags := 10, nameIndex := 13, descriptorIndex := 14, attributes := #[] }] 49 2 #[] #[])
  fields := #[]
  methods := #[k1m0, k1m1, k1m2]
  instanceTypes := #[]
  staticTypes := #[]
  resolved := Array.replicate 38 none
  statics := none }

def pool2 : Array CpInfo := pool [(1, .class_ 2), (0, u "com/example/cairn/cairn/ChunkValues"), (0, .class_ 4), (0, u "java/lang/Object")] 4

/-- com/example/cairn/cairn/ChunkValues -/
def k2 : Class := { plain "com/example/cairn/cairn/ChunkValues" (some 0) with
  accessFlags := 1536
  interfaces := #[]
  cf := some (fileOf pool2 1 #[] #[] 1536 3 #[] #[])
  fields := #[]
  methods := #[]
  instanceTypes := #[]
  staticTypes := #[]
  resolved := Array.replicate 9 none
  statics := none }

def pool3 : Array CpInfo := pool [(1, .methodref 2 3), (0, .class_ 4), (0, .nameAndType 5 6), (0, u "java/lang/Object"), (0, u "<init>"), (0, u "()V"), (1, .class_ 10), (1, u "com/example/cairn/cairn/Container"), (19, .fieldref 8 31), (0, .nameAndType 32 33), (0, u "shared"), (0, u "Z"), (7, .class_ 42), (0, u "com/example/cairn/cairn/ChunkValues"), (15, u "()Z"), (3, u "isShared")] 17

def k3c0 : Code := { maxStack := 1, maxLocals := 1, code := prog_28_method_1_code, exceptionTable := #[], attributes := #[] }
def k3m0 : Method := { name := "<init>", desc := "()V", sig := { parameters := [], returnType := none }, accessFlags := 0, code := some k3c0 }
def k3c1 : Code := { maxStack := 1, maxLocals := 1, code := prog_28_method_16_code, exceptionTable := #[], attributes := #[] }
def k3m1 : Method := { name := "isShared", desc := "()Z", sig := { parameters := [], returnType := some .boolean }, accessFlags := 16, code := some k3c1 }
/-- com/example/cairn/cairn/Container -/
def k3 : Class := { plain "com/example/cairn/cairn/Container" (some 0) with
  accessFlags := 1056
  interfaces := #[2]
  cf := some (fileOf pool3 8 #[] #[{ accessFlags := 0, nameIndex := 5, descriptorIndex := 6, attributes := #[] }, { accessFlags := 16, nameIndex := 62, descriptorIndex := 58, attributes := #[] }] 1056 2 #[41] #[{ accessFlags := 2, nameIndex := 32, descriptorIndex := 33, attributes := #[] }])
  fields := #[{ name := "shared", type := .boolean, accessFlags := 2, slot := 0, constantValue := 0 }]
  methods := #[k3m0, k3m1]
  instanceTypes := #[.boolean]
  staticTypes := #[]
  resolved := Array.replicate 80 none
  statics := none }

def pool4 : Array CpInfo := pool [(1, .class_ 2), (0, u "com/example/cairn/cairn/ChunkReads"), (0, .class_ 4), (0, u "java/lang/Object")] 9

/-- com/example/cairn/cairn/ChunkReads -/
def k4 : Class := { plain "com/example/cairn/cairn/ChunkReads" (some 0) with
  accessFlags := 1536
  interfaces := #[]
  cf := some (fileOf pool4 1 #[] #[] 1536 3 #[] #[])
  fields := #[]
  methods := #[]
  instanceTypes := #[]
  staticTypes := #[]
  resolved := Array.replicate 14 none
  statics := none }

def pool5 : Array CpInfo := pool [(1, .interfaceMethodref 2 3), (0, .class_ 4), (0, .nameAndType 5 6), (0, u "com/example/cairn/cairn/ArrayValues"), (0, u "countBelow"), (0, u "(Lcom/example/cairn/cairn/ArrayValues;III)I"), (0, .interfaceMethodref 2 8), (0, .nameAndType 9 10), (0, u "value"), (0, u "(II)C"), (2, u "indexOf"), (0, u "(Lcom/example/cairn/cairn/ArrayValues;IIC)I"), (13, .class_ 29), (0, u "java/lang/Object"), (0, .class_ 31), (0, u "com/example/cairn/cairn/ChunkReads")] 15

def k5m0 : Method := { name := "value", desc := "(II)C", sig := { parameters := [.int, .int], returnType := some .char }, accessFlags := 1025, code := none }
def k5c1 : Code := { maxStack := 4, maxLocals := 5, code := prog_7_method_2_code, exceptionTable := #[], attributes := #[] }
def k5m1 : Method := { name := "indexOf", desc := "(Lcom/example/cairn/cairn/ArrayValues;IIC)I", sig := { parameters := [(.object "com/example/cairn/cairn/ArrayValues"), .int, .int, .char], returnType := some .int }, accessFlags := 9, code := some k5c1 }
def k5c2 : Code := { maxStack := 6, maxLocals := 7, code := prog_7_method_3_code, exceptionTable := #[], attributes := #[] }
def k5m2 : Method := { name := "countBelow", desc := "(Lcom/example/cairn/cairn/ArrayValues;III)I", sig := { parameters := [(.object "com/example/cairn/cairn/ArrayValues"), .int, .int, .int], returnType := some .int }, accessFlags := 10, code := some k5c2 }
/-- com/example/cairn/cairn/ArrayValues -/
def k5 : Class := { plain "com/example/cairn/cairn/ArrayValues" (some 0) with
  accessFlags := 1536
  interfaces := #[4]
  cf := some (fileOf pool5 2 #[] #[{ accessFlags := 1025, nameIndex := 9, descriptorIndex := 10, attributes := #[] }, { accessFlags := 9, nameIndex := 13, descriptorIndex := 14, attributes := #[] }, { accessFlags := 10, nameIndex := 5, descriptorIndex := 6, attributes := #[] }] 1536 28 #[30] #[])
  fields := #[]
  methods := #[k5m0, k5m1, k5m2]
  instanceTypes := #[]
  staticTypes := #[]
  resolved := Array.replicate 47 none
  statics := none }

def pool6 : Array CpInfo := pool [(7, .methodref 8 9), (0, .class_ 10), (0, .nameAndType 11 12), (0, u "com/example/cairn/cairn/Container"), (0, u "<init>"), (0, u "()V"), (0, .fieldref 14 15), (0, .class_ 16), (0, .nameAndType 17 18), (0, u "com/example/cairn/cairn/ArrayContainer"), (0, u "UNMET"), (0, u "[J"), (0, .fieldref 14 20), (0, .nameAndType 21 18), (0, u "occupiedWords"), (0, .fieldref 14 23), (0, .nameAndType 24 25), (0, u "values"), (0, u "[C"), (0, .fieldref 14 27), (0, .nameAndType 28 29), (0, u "cardinality"), (0, u "C"), (2, u "NO_VALUES"), (24, .methodref 14 58), (0, .nameAndType 59 60), (0, u "isShared"), (0, u "()Z"), (3, u "(C)Lcom/example/cairn/cairn/Container;"), (0, .methodref 14 66), (0, .nameAndType 67 68), (0, u "indexOf"), (0, u "(C)I"), (6, u "add"), (0, .methodref 14 77), (0, .nameAndType 78 79), (0, u "replaceValues"), (0, u "(III)V"), (4, .interfaceMethodref 85 86), (0, .class_ 87), (0, .nameAndType 67 88), (0, u "com/example/cairn/cairn/ArrayValues"), (0, u "(Lcom/example/cairn/cairn/ArrayValues;IIC)I"), (41, u "OCCUPIED_WORDS"), (0, u "Ljava/lang/invoke/VarHandle;"), (16, u "SINGLE_BITS"), (4, u "()I"), (2, .methodref 157 158), (0, .class_ 159), (0, .nameAndType 160 161), (0, u "java/lang/System"), (0, u "arraycopy"), (0, u "(Ljava/lang/Object;ILjava/lang/Object;II)V"), (36, u "SPREAD"), (10, u "MET_ONCE"), (50, u "MAX_CARDINALITY"), (0, u "I"), (2, u "INITIAL_CAPACITY"), (1, u "DENSE_WORD_VALUES"), (1, u "SUMMARIZED_VALUES"), (1, u "SUMMARIZED_WORD_VALUES"), (1, u "SUMMARY_LONGS"), (1, u "(C)V"), (10, u "remove"), (0, u "value"), (0, u "(II)C"), (7, u "runCount")] 20

def k6c0 : Code := { maxStack := 3, maxLocals := 2, code := prog_3_method_1_code, exceptionTable := #[], attributes := #[] }
def k6m0 : Method := { name := "<init>", desc := "(C)V", sig := { parameters := [.char], returnType := none }, accessFlags := 0, code := some k6c0 }
def k6c1 : Code := { maxStack := 4, maxLocals := 3, code := prog_3_method_9_code, exceptionTable := #[], attributes := #[] }
def k6m1 : Method := { name := "add", desc := "(C)Lcom/example/cairn/cairn/Container;", sig := { parameters := [.char], returnType := some (.object "com/example/cairn/cairn/Container") }, accessFlags := 0, code := some k6c1 }
def k6c2 : Code := { maxStack := 4, maxLocals := 3, code := prog_3_method_11_code, exceptionTable := #[], attributes := #[] }
def k6m2 : Method := { name := "remove", desc := "(C)Lcom/example/cairn/cairn/Container;", sig := { parameters := [.char], returnType := some (.object "com/example/cairn/cairn/Container") }, accessFlags := 0, code := some k6c2 }
def k6c3 : Code := { maxStack := 2, maxLocals := 3, code := prog_3_method_13_code, exceptionTable := #[], attributes := #[] }
def k6m3 : Method := { name := "value", desc := "(II)C", sig := { parameters := [.int, .int], returnType := some .char }, accessFlags := 1, code := some k6c3 }
def k6c4 : Code := { maxStack := 4, maxLocals := 2, code := prog_3_method_14_code, exceptionTable := #[], attributes := #[] }
def k6m4 : Method := { name := "indexOf", desc := "(C)I", sig := { parameters := [.char], returnType := some .int }, accessFlags := 0, code := some k6c4 }
def k6c5 : Code := { maxStack := 4, maxLocals := 3, code := prog_3_method_21_code, exceptionTable := #[], attributes := #[] }
def k6m5 : Method := { name := "runCount", desc := "()I", sig := { parameters := [], returnType := some .int }, accessFlags := 0, code := some k6c5 }
def k6c6 : Code := { maxStack := 6, maxLocals := 7, code := prog_3_method_33_code, exceptionTable := #[], attributes := #[] }
def k6m6 : Method := { name := "replaceValues", desc := "(III)V", sig := { parameters := [.int, .int, .int], returnType := none }, accessFlags := 2, code := some k6c6 }
/-- com/example/cairn/cairn/ArrayContainer -/
def k6 : Class := { plain "com/example/cairn/cairn/ArrayContainer" (some 3) with
  accessFlags := 48
  interfaces := #[5]
  cf := some (fileOf pool6 14 #[] #[{ accessFlags := 0, nameIndex := 11, descriptorIndex := 274, attributes := #[] }, { accessFlags := 0, nameIndex := 75, descriptorIndex := 64, attributes := #[] }, { accessFlags := 0, nameIndex := 285, descriptorIndex := 64, attributes := #[] }, { accessFlags := 1, nameIndex := 286, descriptorIndex := 287, attributes := #[] }, { accessFlags := 0, nameIndex := 67, descriptorIndex := 68, attributes := #[] }, { accessFlags := 0, nameIndex := 295, descriptorIndex := 153, attributes := #[] }, { accessFlags := 2, nameIndex := 78, descriptorIndex := 79, attributes := #[] }] 48 8 #[85] #[{ accessFlags := 24, nameIndex := 260, descriptorIndex := 261, attributes := #[] }, { accessFlags := 26, nameIndex := 264, descriptorIndex := 261, attributes := #[] }, { accessFlags := 24, nameIndex := 266, descriptorIndex := 261, attributes := #[] }, { accessFlags := 26, nameIndex := 32, descriptorIndex := 25, attributes := #[] }, { accessFlags := 24, nameIndex := 148, descriptorIndex := 18, attributes := #[] }, { accessFlags := 24, nameIndex := 268, descriptorIndex := 261, attributes := #[] }, { accessFlags := 26, nameIndex := 270, descriptorIndex := 261, attributes := #[] }, { accessFlags := 26, nameIndex := 272, descriptorIndex := 261, attributes := #[] }, { accessFlags := 26, nameIndex := 17, descriptorIndex := 18, attributes := #[] }, { accessFlags := 26, nameIndex := 209, descriptorIndex := 18, attributes := #[] }, { accessFlags := 26, nameIndex := 198, descriptorIndex := 18, attributes := #[] }, { accessFlags := 26, nameIndex := 130, descriptorIndex := 131, attributes := #[] }, { accessFlags := 2, nameIndex := 24, descriptorIndex := 25, attributes := #[] }, { accessFlags := 2, nameIndex := 28, descriptorIndex := 29, attributes := #[] }, { accessFlags := 2, nameIndex := 21, descriptorIndex := 18, attributes := #[] }])
  fields := #[{ name := "MAX_CARDINALITY", type := .int, accessFlags := 24, slot := 0, constantValue := 0 }, { name := "INITIAL_CAPACITY", type := .int, accessFlags := 26, slot := 1, constantValue := 0 }, { name := "DENSE_WORD_VALUES", type := .int, accessFlags := 24, slot := 2, constantValue := 0 }, { name := "NO_VALUES", type := (.array .char), accessFlags := 26, slot := 3, constantValue := 0 }, { name := "SINGLE_BITS", type := (.array .long), accessFlags := 24, slot := 4, constantValue := 0 }, { name := "SUMMARIZED_VALUES", type := .int, accessFlags := 24, slot := 5, constantValue := 0 }, { name := "SUMMARIZED_WORD_VALUES", type := .int, accessFlags := 26, slot := 6, constantValue := 0 }, { name := "SUMMARY_LONGS", type := .int, accessFlags := 26, slot := 7, constantValue := 0 }, { name := "UNMET", type := (.array .long), accessFlags := 26, slot := 8, constantValue := 0 }, { name := "MET_ONCE", type := (.array .long), accessFlags := 26, slot := 9, constantValue := 0 }, { name := "SPREAD", type := (.array .long), accessFlags := 26, slot := 10, constantValue := 0 }, { name := "OCCUPIED_WORDS", type := (.object "java/lang/invoke/VarHandle"), accessFlags := 26, slot := 11, constantValue := 0 }, { name := "values", type := (.array .char), accessFlags := 2, slot := 1, constantValue := 0 }, { name := "cardinality", type := .char, accessFlags := 2, slot := 2, constantValue := 0 }, { name := "occupiedWords", type := (.array .long), accessFlags := 2, slot := 3, constantValue := 0 }]
  methods := #[k6m0, k6m1, k6m2, k6m3, k6m4, k6m5, k6m6]
  instanceTypes := #[.boolean, (.array .char), .char, (.array .long)]
  staticTypes := #[.int, .int, .int, (.array .char), (.array .long), .int, .int, .int, (.array .long), (.array .long), (.array .long), (.object "java/lang/invoke/VarHandle")]
  resolved := Array.replicate 316 none
  statics := some 0 }

def pool7 : Array CpInfo := pool [(2, .class_ 4), (1, u "java/lang/Object"), (0, u "<init>"), (0, u "()V"), (1, .class_ 10), (1, u "java/lang/System"), (0, u "allowSecurityManager"), (0, u "I"), (16, u "cons"), (0, u "Ljava/io/Console;"), (77, .class_ 110), (1, u "java/lang/System$CallersHolder"), (43, u "initialErrStream"), (0, u "Ljava/io/PrintStream;"), (19, u "security"), (0, u "Ljava/lang/SecurityManager;"), (31, .class_ 209), (0, u "java/lang/System$1"), (7, u "props"), (0, u "Ljava/util/Properties;"), (2, u "lineSeparator"), (0, u "Ljava/lang/String;"), (96, .class_ 321), (1, u "java/lang/System$LoggerFinder"), (5, .class_ 328), (0, u "java/lang/System$Logger"), (67, u "err"), (2, u "out"), (91, u "notSupportedJnuEncoding"), (15, u "in"), (17, u "initialIn"), (0, u "Ljava/io/InputStream;"), (35, u "bootLayer"), (0, u "Ljava/lang/ModuleLayer;"), (99, .class_ 664), (0, u "java/lang/System$2"), (9, u "NEVER"), (2, u "MAYBE"), (49, u "arraycopy"), (0, u "(Ljava/lang/Object;ILjava/lang/Object;II)V"), (72, .class_ 802), (0, u "java/lang/System$Logger$Level")] 31

def k7m0 : Method := { name := "<init>", desc := "()V", sig := { parameters := [], returnType := none }, accessFlags := 2, code := none }
def k7m1 : Method := { name := "arraycopy", desc := "(Ljava/lang/Object;ILjava/lang/Object;II)V", sig := { parameters := [(.object "java/lang/Object"), .int, (.object "java/lang/Object"), .int, .int], returnType := none }, accessFlags := 265, code := none }
/-- java/lang/System -/
def k7 : Class := { plain "java/lang/System" (some 0) with
  accessFlags := 49
  interfaces := #[]
  cf := some (fileOf pool7 8 #[.nestMembers #[319, 327, 801, 108, 663, 208]] #[{ accessFlags := 2, nameIndex := 5, descriptorIndex := 6, attributes := #[] }, { accessFlags := 265, nameIndex := 727, descriptorIndex := 728, attributes := #[] }] 49 2 #[] #[{ accessFlags := 25, nameIndex := 507, descriptorIndex := 526, attributes := #[] }, { accessFlags := 25, nameIndex := 399, descriptorIndex := 155, attributes := #[] }, { accessFlags := 25, nameIndex := 396, descriptorIndex := 155, attributes := #[] }, { accessFlags := 10, nameIndex := 525, descriptorIndex := 526, attributes := #[] }, { accessFlags := 26, nameIndex := 674, descriptorIndex := 12, attributes := #[] }, { accessFlags := 26, nameIndex := 677, descriptorIndex := 12, attributes := #[] }, { accessFlags := 10, nameIndex := 11, descriptorIndex := 12, attributes := #[] }, { accessFlags := 74, nameIndex := 175, descriptorIndex := 176, attributes := #[] }, { accessFlags := 10, nameIndex := 491, descriptorIndex := 222, attributes := #[] }, { accessFlags := 74, nameIndex := 29, descriptorIndex := 30, attributes := #[] }, { accessFlags := 74, nameIndex := 154, descriptorIndex := 155, attributes := #[] }, { accessFlags := 10, nameIndex := 217, descriptorIndex := 218, attributes := #[] }, { accessFlags := 10, nameIndex := 221, descriptorIndex := 222, attributes := #[] }, { accessFlags := 8, nameIndex := 562, descriptorIndex := 563, attributes := #[] }])
  fields := #[{ name := "in", type := (.object "java/io/InputStream"), accessFlags := 25, slot := 0, constantValue := 0 }, { name := "out", type := (.object "java/io/PrintStream"), accessFlags := 25, slot := 1, constantValue := 0 }, { name := "err", type := (.object "java/io/PrintStream"), accessFlags := 25, slot := 2, constantValue := 0 }, { name := "initialIn", type := (.object "java/io/InputStream"), accessFlags := 10, slot := 3, constantValue := 0 }, { name := "NEVER", type := .int, accessFlags := 26, slot := 4, constantValue := 0 }, { name := "MAYBE", type := .int, accessFlags := 26, slot := 5, constantValue := 0 }, { name := "allowSecurityManager", type := .int, accessFlags := 10, slot := 6, constantValue := 0 }, { name := "security", type := (.object "java/lang/SecurityManager"), accessFlags := 74, slot := 7, constantValue := 0 }, { name := "notSupportedJnuEncoding", type := (.object "java/lang/String"), accessFlags := 10, slot := 8, constantValue := 0 }, { name := "cons", type := (.object "java/io/Console"), accessFlags := 74, slot := 9, constantValue := 0 }, { name := "initialErrStream", type := (.object "java/io/PrintStream"), accessFlags := 74, slot := 10, constantValue := 0 }, { name := "props", type := (.object "java/util/Properties"), accessFlags := 10, slot := 11, constantValue := 0 }, { name := "lineSeparator", type := (.object "java/lang/String"), accessFlags := 10, slot := 12, constantValue := 0 }, { name := "bootLayer", type := (.object "java/lang/ModuleLayer"), accessFlags := 8, slot := 13, constantValue := 0 }]
  methods := #[k7m0, k7m1]
  instanceTypes := #[]
  staticTypes := #[(.object "java/io/InputStream"), (.object "java/io/PrintStream"), (.object "java/io/PrintStream"), (.object "java/io/InputStream"), .int, .int, .int, (.object "java/lang/SecurityManager"), (.object "java/lang/String"), (.object "java/io/Console"), (.object "java/io/PrintStream"), (.object "java/util/Properties"), (.object "java/lang/String"), (.object "java/lang/ModuleLayer")]
  resolved := Array.replicate 834 none
  statics := none }

def pool8 : Array CpInfo := pool [(1, u "java/lang/Cloneable"), (0, .class_ 1), (0, u "java/lang/Object"), (0, .class_ 3)] 3

/-- java/lang/Cloneable -/
def k8 : Class := { plain "java/lang/Cloneable" (some 0) with
  accessFlags := 1537
  interfaces := #[]
  cf := some (fileOf pool8 2 #[] #[] 1537 4 #[] #[])
  fields := #[]
  methods := #[]
  instanceTypes := #[]
  staticTypes := #[]
  resolved := Array.replicate 8 none
  statics := none }

def pool9 : Array CpInfo := pool [(1, u "java/io/Serializable"), (0, .class_ 1), (0, u "java/lang/Object"), (0, .class_ 3)] 3

/-- java/io/Serializable -/
def k9 : Class := { plain "java/io/Serializable" (some 0) with
  accessFlags := 1537
  interfaces := #[]
  cf := some (fileOf pool9 2 #[] #[] 1537 4 #[] #[])
  fields := #[]
  methods := #[]
  instanceTypes := #[]
  staticTypes := #[]
  resolved := Array.replicate 8 none
  statics := none }

/-- the primitive byte -/
def k10 : Class := { plain "byte" none with kind := .primitive 'B', accessFlags := 0x411 }
/-- [B -/
def k11 : Class := { plain "[B" (some 0) with kind := .array 10 .byte, interfaces := #[8, 9], accessFlags := 1041 }

/-- the primitive char -/
def k12 : Class := { plain "char" none with kind := .primitive 'C', accessFlags := 0x411 }
/-- [C -/
def k13 : Class := { plain "[C" (some 0) with kind := .array 12 .char, interfaces := #[8, 9], accessFlags := 1041 }

/-- the primitive int -/
def k14 : Class := { plain "int" none with kind := .primitive 'I', accessFlags := 0x411 }
/-- [I -/
def k15 : Class := { plain "[I" (some 0) with kind := .array 14 .int, interfaces := #[8, 9], accessFlags := 1041 }

/-- the primitive long -/
def k16 : Class := { plain "long" none with kind := .primitive 'J', accessFlags := 0x411 }
/-- [J -/
def k17 : Class := { plain "[J" (some 0) with kind := .array 16 .long, interfaces := #[8, 9], accessFlags := 1041 }

def heap : Heap := #[{ cls := 6, slots := #[.int 0, .int 0, .int 0, .null, .null, .int 0, .int 0, .int 0, .ref 1, .null, .null, .null], vm := .statics 6 },
  { cls := 17, slots := #[], vm := .none }]
def classes : Array Class := #[k0, k1, k2, k3, k4, k5, k6, k7, k8, k9, k10, k11, k12, k13, k14, k15, k16, k17]
def interned : List (Array UInt16 × Addr) := []
def slotsUsed : Nat := 12
def theMethod : MethodId := ⟨1, 1⟩
def args0 : Array Value := #[.int 5, .int 6, .int 7, .int 1, .int 5]
def aboutOver (below : List Frame) : State where
  vm := { classes := classes, interned := interned.toArray }
  heap := heap
  slotsUsed := slotsUsed
  threads := #[{ frames := .invoking theMethod args0 :: below }]
def below0 : List Frame := [.native { method := ⟨0, 0⟩, args := #[] }]
def about1 : State := aboutOver below0
def p0 : Program := .bare "" "" ""
def e0 : Env := launch0.env 0 0 0
theorem w_frames : about1.frames = Frame.invoking theMethod args0 :: below0 := rfl
set_option maxRecDepth 65536 in
theorem w_args : argsFit about1.vm theMethod args0 = true := by decide +kernel
set_option maxRecDepth 65536 in
theorem w_heap : heapFits about1 = true := by decide +kernel
set_option maxRecDepth 65536 in
theorem w_runnable : about1.curStatus? = some .runnable := by decide +kernel
set_option maxRecDepth 65536 in
theorem w_alone : about1.alone = true := by decide +kernel
set_option maxRecDepth 65536 in
theorem w_named : about1.methodNamed? x = some theMethod := by decide +kernel
set_option maxRecDepth 65536 in
theorem w_hears : about1.hears theMethod below0 = true := by decide +kernel
set_option maxRecDepth 65536 in
theorem w_ripe : about1.ripe theMethod args0 below0 = true := by decide +kernel
theorem w_running : about1.status = .running := rfl
set_option maxRecDepth 65536 in
theorem w_room : about1.hasRoom e0.platform room_1 = true :=
  launch0.hasRoom_least _ room_1 (by decide +kernel) (by decide +kernel) (by decide +kernel) (by decide +kernel) (by decide +kernel) (by decide +kernel)
theorem allAtoms_all (ts : List Jvm.Cond) (a : Array Jvm.Value) (st : Jvm.State) : (allAtoms ts).before a st = ts.all (fun c => c.before a st) := by
  induction ts with
  | nil => rfl
  | cons c t ih =>
    show (Jvm.Cond.and c (allAtoms t)).before a st = _
    rw [Jvm.Cond.before_and, ih, List.all_cons]
def words1 : List Jvm.Cond := Jvm.Cond.code x code maxLocals ret :: tables_1
/-- a 'code' word, met by the world's own term for the bytes: nothing is compared byte by byte -/
theorem code_word {y : MethodName} {bytes : ByteArray} {mx : Nat} {rt : Option FieldType} {a : Array Value} {s : State} {m : MethodId} {meth : Method} {c : Code} (h1 : s.methodNamed? y = some m) (h2 : s.vm.method? m = some meth) (h3 : meth.code = some c) (h4 : c.code = bytes)
    (h5 : (c.maxLocals == mx && c.exceptionTable.isEmpty && decide (c.maxStack ≤ mostOperands) && decide (meth.sig.returnType = rt) && !meth.locks && decide (parseMethodDescriptor y.desc = some meth.sig)) = true) : (Jvm.Cond.code y bytes mx rt).before a s = true := by
  simp only [Bool.and_eq_true, beq_iff_eq, Bool.not_eq_true', decide_eq_true_eq] at h5
  obtain ⟨⟨⟨⟨⟨g1, g2⟩, g3⟩, g4⟩, g5⟩, g6⟩ := h5
  simp [Cond.before, Cond.holds, Cond.value, h1, h2, h3, h4, g1, g2, g3, g4, g5, g6]
def isCode : Jvm.Cond → Bool
  | .code _ _ _ _ => true
  | _ => false
theorem all_split {L : List Jvm.Cond} {P : Jvm.Cond → Bool} (h1 : L.all (fun c => isCode c || P c) = true) (h2 : ∀ c ∈ L.filter isCode, P c = true) : L.all P = true := by
  refine List.all_eq_true.mpr fun c hc => ?_
  have h := List.all_eq_true.mp h1 c hc
  rcases Bool.eq_false_or_eq_true (isCode c) with hi | hi
  · exact h2 c (List.mem_filter.mpr ⟨hc, hi⟩)
  · simpa [hi] using h
set_option maxRecDepth 65536 in
theorem w_c0 : (Jvm.Cond.code x code maxLocals ret).before args0 about1 = true := code_word (m := ⟨1, 1⟩) (meth := k1m1) (c := k1c1) (by decide +kernel) rfl rfl rfl (by decide +kernel)
set_option maxRecDepth 65536 in
theorem w_c1 : (Jvm.Cond.code ({ cls := "com/example/cairn/cairn/ArrayContainerRunCountPinLaw", name := "gap", desc := "(I)I" } : Jvm.MethodName) method_3_code (1 : Nat) (Option.some Jvm.ClassFile.FieldType.int)).before args0 about1 = true := code_word (m := ⟨1, 2⟩) (meth := k1m2) (c := k1c2) (by decide +kernel) rfl rfl rfl (by decide +kernel)
set_option maxRecDepth 65536 in
theorem w_c2 : (Jvm.Cond.code ({ cls := "com/example/cairn/cairn/ArrayContainer", name := "<init>", desc := "(C)V" } : Jvm.MethodName) prog_3_method_1_code (2 : Nat) (Option.none : Option Jvm.ClassFile.FieldType)).before args0 about1 = true := code_word (m := ⟨6, 0⟩) (meth := k6m0) (c := k6c0) (by decide +kernel) rfl rfl rfl (by decide +kernel)
set_option maxRecDepth 65536 in
theorem w_c3 : (Jvm.Cond.code ({ cls := "com/example/cairn/cairn/Container", name := "<init>", desc := "()V" } : Jvm.MethodName) prog_28_method_1_code (1 : Nat) (Option.none : Option Jvm.ClassFile.FieldType)).before args0 about1 = true := code_word (m := ⟨3, 0⟩) (meth := k3m0) (c := k3c0) (by decide +kernel) rfl rfl rfl (by decide +kernel)
set_option maxRecDepth 65536 in
theorem w_c4 : (Jvm.Cond.code ({ cls := "java/lang/Object", name := "<init>", desc := "()V" } : Jvm.MethodName) object_method_1_code (1 : Nat) (Option.none : Option Jvm.ClassFile.FieldType)).before args0 about1 = true := code_word (m := ⟨0, 0⟩) (meth := k0m0) (c := k0c0) (by decide +kernel) rfl rfl rfl (by decide +kernel)
set_option maxRecDepth 65536 in
theorem w_c5 : (Jvm.Cond.code ({ cls := "com/example/cairn/cairn/ArrayContainer", name := "add", desc := "(C)Lcom/example/cairn/cairn/Container;" } : Jvm.MethodName) prog_3_method_9_code (3 : Nat) (Option.some (Jvm.ClassFile.FieldType.object "com/example/cairn/cairn/Container"))).before args0 about1 = true := code_word (m := ⟨6, 1⟩) (meth := k6m1) (c := k6c1) (by decide +kernel) rfl rfl rfl (by decide +kernel)
set_option maxRecDepth 65536 in
theorem w_c6 : (Jvm.Cond.code ({ cls := "com/example/cairn/cairn/Container", name := "isShared", desc := "()Z" } : Jvm.MethodName) prog_28_method_16_code (1 : Nat) (Option.some Jvm.ClassFile.FieldType.boolean)).before args0 about1 = true := code_word (m := ⟨3, 1⟩) (meth := k3m1) (c := k3c1) (by decide +kernel) rfl rfl rfl (by decide +kernel)
set_option maxRecDepth 65536 in
theorem w_c7 : (Jvm.Cond.code ({ cls := "com/example/cairn/cairn/ArrayContainer", name := "runCount", desc := "()I" } : Jvm.MethodName) prog_3_method_21_code (3 : Nat) (Option.some Jvm.ClassFile.FieldType.int)).before args0 about1 = true := code_word (m := ⟨6, 5⟩) (meth := k6m5) (c := k6c5) (by decide +kernel) rfl rfl rfl (by decide +kernel)
set_option maxRecDepth 65536 in
theorem w_c8 : (Jvm.Cond.code ({ cls := "com/example/cairn/cairn/ArrayContainer", name := "remove", desc := "(C)Lcom/example/cairn/cairn/Container;" } : Jvm.MethodName) prog_3_method_11_code (3 : Nat) (Option.some (Jvm.ClassFile.FieldType.object "com/example/cairn/cairn/Container"))).before args0 about1 = true := code_word (m := ⟨6, 2⟩) (meth := k6m2) (c := k6c2) (by decide +kernel) rfl rfl rfl (by decide +kernel)
set_option maxRecDepth 65536 in
theorem w_c9 : (Jvm.Cond.code ({ cls := "com/example/cairn/cairn/ArrayContainer", name := "indexOf", desc := "(C)I" } : Jvm.MethodName) prog_3_method_14_code (2 : Nat) (Option.some Jvm.ClassFile.FieldType.int)).before args0 about1 = true := code_word (m := ⟨6, 4⟩) (meth := k6m4) (c := k6c4) (by decide +kernel) rfl rfl rfl (by decide +kernel)
set_option maxRecDepth 65536 in
theorem w_c10 : (Jvm.Cond.code ({ cls := "com/example/cairn/cairn/ArrayValues", name := "indexOf", desc := "(Lcom/example/cairn/cairn/ArrayValues;IIC)I" } : Jvm.MethodName) prog_7_method_2_code (5 : Nat) (Option.some Jvm.ClassFile.FieldType.int)).before args0 about1 = true := code_word (m := ⟨5, 1⟩) (meth := k5m1) (c := k5c1) (by decide +kernel) rfl rfl rfl (by decide +kernel)
set_option maxRecDepth 65536 in
theorem w_c11 : (Jvm.Cond.code ({ cls := "com/example/cairn/cairn/ArrayValues", name := "countBelow", desc := "(Lcom/example/cairn/cairn/ArrayValues;III)I" } : Jvm.MethodName) prog_7_method_3_code (7 : Nat) (Option.some Jvm.ClassFile.FieldType.int)).before args0 about1 = true := code_word (m := ⟨5, 2⟩) (meth := k5m2) (c := k5c2) (by decide +kernel) rfl rfl rfl (by decide +kernel)
set_option maxRecDepth 65536 in
theorem w_c12 : (Jvm.Cond.code ({ cls := "com/example/cairn/cairn/ArrayContainer", name := "value", desc := "(II)C" } : Jvm.MethodName) prog_3_method_13_code (3 : Nat) (Option.some Jvm.ClassFile.FieldType.char)).before args0 about1 = true := code_word (m := ⟨6, 3⟩) (meth := k6m3) (c := k6c3) (by decide +kernel) rfl rfl rfl (by decide +kernel)
set_option maxRecDepth 65536 in
theorem w_c13 : (Jvm.Cond.code ({ cls := "com/example/cairn/cairn/ArrayContainer", name := "replaceValues", desc := "(III)V" } : Jvm.MethodName) prog_3_method_33_code (7 : Nat) (Option.none : Option Jvm.ClassFile.FieldType)).before args0 about1 = true := code_word (m := ⟨6, 6⟩) (meth := k6m6) (c := k6c6) (by decide +kernel) rfl rfl rfl (by decide +kernel)
def codes1 : List Jvm.Cond := [Jvm.Cond.code x code maxLocals ret, Jvm.Cond.code ({ cls := "com/example/cairn/cairn/ArrayContainerRunCountPinLaw", name := "gap", desc := "(I)I" } : Jvm.MethodName) method_3_code (1 : Nat) (Option.some Jvm.ClassFile.FieldType.int), Jvm.Cond.code ({ cls := "com/example/cairn/cairn/ArrayContainer", name := "<init>", desc := "(C)V" } : Jvm.MethodName) prog_3_method_1_code (2 : Nat) (Option.none : Option Jvm.ClassFile.FieldType), Jvm.Cond.code ({ cls := "com/example/cairn/cairn/Container", name := "<init>", desc := "()V" } : Jvm.MethodName) prog_28_method_1_code (1 : Nat) (Option.none : Option Jvm.ClassFile.FieldType), Jvm.Cond.code ({ cls := "java/lang/Object", name := "<init>", desc := "()V" } : Jvm.MethodName) object_method_1_code (1 : Nat) (Option.none : Option Jvm.ClassFile.FieldType), Jvm.Cond.code ({ cls := "com/example/cairn/cairn/ArrayContainer", name := "add", desc := "(C)Lcom/example/cairn/cairn/Container;" } : Jvm.MethodName) prog_3_method_9_code (3 : Nat) (Option.some (Jvm.ClassFile.FieldType.object "com/example/cairn/cairn/Container")), Jvm.Cond.code ({ cls := "com/example/cairn/cairn/Container", name := "isShared", desc := "()Z" } : Jvm.MethodName) prog_28_method_16_code (1 : Nat) (Option.some Jvm.ClassFile.FieldType.boolean), Jvm.Cond.code ({ cls := "com/example/cairn/cairn/ArrayContainer", name := "runCount", desc := "()I" } : Jvm.MethodName) prog_3_method_21_code (3 : Nat) (Option.some Jvm.ClassFile.FieldType.int), Jvm.Cond.code ({ cls := "com/example/cairn/cairn/ArrayContainer", name := "remove", desc := "(C)Lcom/example/cairn/cairn/Container;" } : Jvm.MethodName) prog_3_method_11_code (3 : Nat) (Option.some (Jvm.ClassFile.FieldType.object "com/example/cairn/cairn/Container")), Jvm.Cond.code ({ cls := "com/example/cairn/cairn/ArrayContainer", name := "indexOf", desc := "(C)I" } : Jvm.MethodName) prog_3_method_14_code (2 : Nat) (Option.some Jvm.ClassFile.FieldType.int), Jvm.Cond.code ({ cls := "com/example/cairn/cairn/ArrayValues", name := "indexOf", desc := "(Lcom/example/cairn/cairn/ArrayValues;IIC)I" } : Jvm.MethodName) prog_7_method_2_code (5 : Nat) (Option.some Jvm.ClassFile.FieldType.int), Jvm.Cond.code ({ cls := "com/example/cairn/cairn/ArrayValues", name := "countBelow", desc := "(Lcom/example/cairn/cairn/ArrayValues;III)I" } : Jvm.MethodName) prog_7_method_3_code (7 : Nat) (Option.some Jvm.ClassFile.FieldType.int), Jvm.Cond.code ({ cls := "com/example/cairn/cairn/ArrayContainer", name := "value", desc := "(II)C" } : Jvm.MethodName) prog_3_method_13_code (3 : Nat) (Option.some Jvm.ClassFile.FieldType.char), Jvm.Cond.code ({ cls := "com/example/cairn/cairn/ArrayContainer", name := "replaceValues", desc := "(III)V" } : Jvm.MethodName) prog_3_method_33_code (7 : Nat) (Option.none : Option Jvm.ClassFile.FieldType)]
set_option maxRecDepth 65536 in
theorem codes_eq : words1.filter isCode = codes1 := rfl
theorem w_codes : ∀ c ∈ words1.filter isCode, c.before args0 about1 = true := by
  rw [codes_eq]
  intro c hc
  simp only [codes1, List.mem_cons, List.not_mem_nil, or_false] at hc
  rcases hc with rfl | rfl | rfl | rfl | rfl | rfl | rfl | rfl | rfl | rfl | rfl | rfl | rfl | rfl
  · exact w_c0
  · exact w_c1
  · exact w_c2
  · exact w_c3
  · exact w_c4
  · exact w_c5
  · exact w_c6
  · exact w_c7
  · exact w_c8
  · exact w_c9
  · exact w_c10
  · exact w_c11
  · exact w_c12
  · exact w_c13
set_option maxRecDepth 65536 in
theorem w_t1 : (words1.take 24).all (fun c => isCode c || c.before args0 about1) = true := by decide +kernel
set_option maxRecDepth 65536 in
theorem w_t2 : ((words1.drop 24).take 24).all (fun c => isCode c || c.before args0 about1) = true := by decide +kernel
set_option maxRecDepth 65536 in
theorem w_t3 : (((words1.drop 24).drop 24).take 24).all (fun c => isCode c || c.before args0 about1) = true := by decide +kernel
set_option maxRecDepth 65536 in
theorem w_t4 : (((words1.drop 24).drop 24).drop 24).all (fun c => isCode c || c.before args0 about1) = true := by decide +kernel
theorem w_tables : (allAtoms (Jvm.Cond.code x code maxLocals ret :: tables_1)).before args0 about1 = true := by
  rw [allAtoms_all]
  show words1.all (fun c => c.before args0 about1) = true
  refine all_split ?_ w_codes
  rw [← List.take_append_drop 24 words1, List.all_append, w_t1, ← List.take_append_drop 24 (words1.drop 24), List.all_append, w_t2, ← List.take_append_drop 24 ((words1.drop 24).drop 24), List.all_append, w_t3, w_t4]
  rfl
set_option maxRecDepth 65536 in
theorem w_case : (Jvm.Cond.and given_1 narrow_1).before args0 about1 = true := by decide +kernel
theorem w_applies : (headSpec (Jvm.Cond.code x code maxLocals ret :: tables_1) room_1).applies x e0.platform about1 = true :=
  (Spec.applies_iff w_frames).mpr ⟨w_running, w_runnable, w_alone, w_named, w_hears, w_ripe, w_room, w_tables⟩
theorem atStart : AtStart classFile x code maxLocals ret World_1 tables_1 room_1 Calls_1 rest_1 Pre_1 launch0 p0 e0 about1 theMethod args0 below0 :=
  ⟨lists_1, trivial, launch0.admits_env _ _ _, launch0.least_env, fairChoices_fair.cas, fairChoices_fair.clock, w_frames, w_args, w_heap, w_applies, trivial, trivial, w_case⟩
end start1
theorem witness_1 : WitnessClaimed_1 := ⟨start1.p0, start1.e0, start1.about1, start1.theMethod, start1.args0, start1.below0, start1.atStart⟩
end Jvm.Pilot.@@N@@
