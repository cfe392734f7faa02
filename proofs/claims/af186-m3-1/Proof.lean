import JvmDerived
import JvmDerived.Pilot.@@N@@Statement
import JvmDerived.Pilot.@@N@@Code
set_option linter.unusedVariables false
set_option linter.unusedSimpArgs false
namespace Jvm.Pilot.@@N@@
open Jvm Jvm.ClassFile Sem Op Lib Jvm.Free Jvm.Stand Jvm.LawKit Jvm.RoadKit Bundle Jvm.Pilot.@@N@@.Jvm.D
/-! The end of a walk, as a goal: from U the run ends, and G holds of the end. -/
def WP (p : Program) (e : Env) (below : List Frame) (G : State → Outcome → Prop) (U : State) : Prop :=
  ∃ s₂ o, Steps p.tables e below U s₂ ∧ s₂.status = .running ∧ Ended s₂ below o ∧ G s₂ o
def GG (Q : Option Value → Heap → List Loc → Prop) (s : State) (k n : Nat) : State → Outcome → Prop :=
  fun t o => ∃ v L, o = .returned v ∧ Q v t.heap L ∧ FrameEnd s o t L k n
theorem own_go {p : Program} {e : Env} {below : List Frame} {G : State → Outcome → Prop} {U V : State} (h : ∀ t, Steps p.tables e below V t → Steps p.tables e below U t) (w : WP p e below G V) : WP p e below G U := by
  obtain ⟨t, o, h1, h2⟩ := w
  exact ⟨t, o, h _ h1, h2⟩
/-- what a body that writes nothing leaves -/
def PQ (h0 : Heap) (n0 : Nat) (w : Value) (v : Option Value) (h : Heap) (L : List Loc) : Prop := v = some w ∧ Fr n0 L ∧ h = h0
/-- what the law leaves -/
def Q0 (n0 : Nat) (v : Option Value) (h : Heap) (L : List Loc) : Prop := v = some (.int 1) ∧ Fr n0 L
section Own
variable {p : Program} {l : Launch} {e : Env} {R : Room} {s : State} {m : MethodId} {args : Array Value} {below : List Frame} {meth : Method} {c : Code} {T : State} {locs : List Loc} {cells slots : Nat}
theorem own_mono (X : Stand p l e R s m args below meth c T locs cells slots) {k n : Nat} (h1 : cells ≤ k) (h2 : slots ≤ n) : Stand p l e R s m args below meth c T locs k n :=
  ⟨X.admits, X.cas, X.clock, X.frames, X.room, X.hears, X.method, X.code, X.here, X.tail, X.warmed, X.limits, X.bytes, X.same.mono h1 h2⟩
theorem own_retI (X : Stand p l e R s m args below meth c T locs cells slots) (hx : p.tables.exec = Jvm.exec) (hnl : meth.locks = false) (hret : meth.sig.returnType = some .int) {pc : Nat} {Ls : Array Slot} {z : Int32} {rest : List Value} (hd : decode c.code pc = .ok (.ireturn, 1)) {Q : Option Value → Heap → List Loc → Prop} {k n : Nat}
    (hq : Q (some (.int z)) T.heap locs) (hc : cells ≤ k) (hs : slots ≤ n) : WP p e below (GG Q s k n) (T.setTop (mkF m pc Ls (.int z :: rest))) := by
  obtain ⟨fs, hr, hrun, hended, hW, hsame⟩ := X.leave (v := some (.int z)) (fun h => by rw [hret] at h; cases h) hnl
  exact ⟨_, _, retOut X hx hret rfl (Or.inl ⟨rfl, Or.inl rfl, z, rfl⟩) hd hr, hrun, hended, _, _, rfl, hq, ⟨_, rfl⟩, hW, hsame.mono hc hs⟩
theorem own_retN (X : Stand p l e R s m args below meth c T locs cells slots) (hx : p.tables.exec = Jvm.exec) (hnl : meth.locks = false) {t : FieldType} (hret : meth.sig.returnType = some t) (ht : t = .boolean ∨ t = .byte ∨ t = .char ∨ t = .short) {pc : Nat} {Ls : Array Slot} {z : Int32} {rest : List Value} (hd : decode c.code pc = .ok (.ireturn, 1)) {Q : Option Value → Heap → List Loc → Prop} {k n : Nat}
    (hq : Q (some (.int (nar t z))) T.heap locs) (hc : cells ≤ k) (hs : slots ≤ n) : WP p e below (GG Q s k n) (T.setTop (mkF m pc Ls (.int z :: rest))) := by
  obtain ⟨fs, hr, hrun, hended, hW, hsame⟩ := X.leave (v := some (.int (nar t z))) (fun h => by rw [hret] at h; cases h) hnl
  exact ⟨_, _, retN X hx hret ht hd hr, hrun, hended, _, _, rfl, hq, ⟨_, rfl⟩, hW, hsame.mono hc hs⟩
theorem own_retZ (X : Stand p l e R s m args below meth c T locs cells slots) (hx : p.tables.exec = Jvm.exec) (hnl : meth.locks = false) (hret : meth.sig.returnType = some .boolean) {pc : Nat} {Ls : Array Slot} {z : Int32} {rest : List Value} (hd : decode c.code pc = .ok (.ireturn, 1)) (hz : z = 0 ∨ z = 1) {Q : Option Value → Heap → List Loc → Prop} {k n : Nat}
    (hq : Q (some (.int z)) T.heap locs) (hc : cells ≤ k) (hs : slots ≤ n) : WP p e below (GG Q s k n) (T.setTop (mkF m pc Ls (.int z :: rest))) := by
  have hb : nar .boolean z = z := by rcases hz with rfl | rfl <;> rfl
  exact own_retN X hx hnl hret (Or.inl rfl) hd (by rw [hb]; exact hq) hc hs
theorem own_retC (X : Stand p l e R s m args below meth c T locs cells slots) (hx : p.tables.exec = Jvm.exec) (hnl : meth.locks = false) (hret : meth.sig.returnType = some .char) {pc : Nat} {Ls : Array Slot} {z : Int32} {rest : List Value} (hd : decode c.code pc = .ok (.ireturn, 1)) {Q : Option Value → Heap → List Loc → Prop} {k n : Nat}
    (hq : Q (some (.int z.toUInt32.toUInt16.toUInt32.toInt32)) T.heap locs) (hc : cells ≤ k) (hs : slots ≤ n) : WP p e below (GG Q s k n) (T.setTop (mkF m pc Ls (.int z :: rest))) :=
  own_retN X hx hnl hret (Or.inr (Or.inr (Or.inl rfl))) hd hq hc hs
theorem own_retB (X : Stand p l e R s m args below meth c T locs cells slots) (hx : p.tables.exec = Jvm.exec) (hnl : meth.locks = false) (hret : meth.sig.returnType = some .byte) {pc : Nat} {Ls : Array Slot} {z : Int32} {rest : List Value} (hd : decode c.code pc = .ok (.ireturn, 1)) {Q : Option Value → Heap → List Loc → Prop} {k n : Nat}
    (hq : Q (some (.int z.toInt8.toInt32)) T.heap locs) (hc : cells ≤ k) (hs : slots ≤ n) : WP p e below (GG Q s k n) (T.setTop (mkF m pc Ls (.int z :: rest))) :=
  own_retN X hx hnl hret (Or.inr (Or.inl rfl)) hd hq hc hs
theorem own_retJ (X : Stand p l e R s m args below meth c T locs cells slots) (hx : p.tables.exec = Jvm.exec) (hnl : meth.locks = false) (hret : meth.sig.returnType = some .long) {pc : Nat} {Ls : Array Slot} {z : Int64} {rest : List Value} (hd : decode c.code pc = .ok (.lreturn, 1)) {Q : Option Value → Heap → List Loc → Prop} {k n : Nat}
    (hq : Q (some (.long z)) T.heap locs) (hc : cells ≤ k) (hs : slots ≤ n) : WP p e below (GG Q s k n) (T.setTop (mkF m pc Ls (.long z :: rest))) := by
  obtain ⟨fs, hr, hrun, hended, hW, hsame⟩ := X.leave (v := some (.long z)) (fun h => by rw [hret] at h; cases h) hnl
  exact ⟨_, _, retOut X hx hret rfl (Or.inr (Or.inl ⟨rfl, rfl, z, rfl⟩)) hd hr, hrun, hended, _, _, rfl, hq, ⟨_, rfl⟩, hW, hsame.mono hc hs⟩
theorem own_retA (X : Stand p l e R s m args below meth c T locs cells slots) (hx : p.tables.exec = Jvm.exec) (hnl : meth.locks = false) {t : FieldType} (hret : meth.sig.returnType = some t) (ht : t.isReference = true) {pc : Nat} {Ls : Array Slot} {w : Value} (hw : w.isRef = true) {rest : List Value} (hd : decode c.code pc = .ok (.areturn, 1)) {Q : Option Value → Heap → List Loc → Prop} {k n : Nat}
    (hq : Q (some w) T.heap locs) (hc : cells ≤ k) (hs : slots ≤ n) : WP p e below (GG Q s k n) (T.setTop (mkF m pc Ls (w :: rest))) := by
  obtain ⟨fs, hr, hrun, hended, hW, hsame⟩ := X.leave (v := some w) (fun h => by rw [hret] at h; cases h) hnl
  have hn : narrow t w = w := by cases t <;> first | rfl | (simp [FieldType.isReference] at ht)
  exact ⟨_, _, retOut X hx hret hn (Or.inr (Or.inr (Or.inr (Or.inr ⟨rfl, ht, hw⟩)))) hd hr, hrun, hended, _, _, rfl, hq, ⟨_, rfl⟩, hW, hsame.mono hc hs⟩
theorem own_ret0 (X : Stand p l e R s m args below meth c T locs cells slots) (hx : p.tables.exec = Jvm.exec) (hnl : meth.locks = false) (hret : meth.sig.returnType = none) {pc : Nat} {Ls : Array Slot} (hd : decode c.code pc = .ok (.return_, 1)) {Q : Option Value → Heap → List Loc → Prop} {k n : Nat}
    (hq : Q none T.heap locs) (hc : cells ≤ k) (hs : slots ≤ n) : WP p e below (GG Q s k n) (T.setTop (mkF m pc Ls [])) := by
  obtain ⟨fs, hr, hrun, hended, hW, hsame⟩ := X.leave (v := none) (fun _ => rfl) hnl
  exact ⟨_, _, X.returnOut hx hret hd hr, hrun, hended, _, _, rfl, hq, ⟨_, rfl⟩, hW, hsame.mono hc hs⟩
end Own

def f1 (q1 : Int64) (q2 : Int64) : Int64 := (if q2 < q1 then q2 else q1)
theorem d1_0 : decode jdk_29_method_70_code 0 = .ok (.lload_n 0, 1) := by decide +kernel
theorem d1_1 : decode jdk_29_method_70_code 1 = .ok (.lload_n 2, 1) := by decide +kernel
theorem d1_2 : decode jdk_29_method_70_code 2 = .ok (.lcmp, 1) := by decide +kernel
theorem d1_3 : decode jdk_29_method_70_code 3 = .ok (.ifCond .gt 7, 3) := by decide +kernel
theorem d1_6 : decode jdk_29_method_70_code 6 = .ok (.lload_n 0, 1) := by decide +kernel
theorem d1_7 : decode jdk_29_method_70_code 7 = .ok (.goto 4, 3) := by decide +kernel
theorem d1_10 : decode jdk_29_method_70_code 10 = .ok (.lload_n 2, 1) := by decide +kernel
theorem d1_11 : decode jdk_29_method_70_code 11 = .ok (.lreturn, 1) := by decide +kernel
theorem ef_rm1 (m : MethodId) (x0 : Int64) (x1 : Int64) : entryFrame m #[(.long x0), (.long x1)] 4 = mkF m 0 #[.val (.long x0), .second, .val (.long x1), .second] [] := by first | (simp [entryFrame, mkF, argsToLocals, Value.category]; done) | rfl
set_option maxRecDepth 65536 in
set_option maxHeartbeats 40000000 in
theorem rm1 (l : Launch) (Z : State) (a0 : Array Value) (hw : ∀ d ∈ tables_1, d.before a0 Z = true) (ws : List Jvm.Cond) (q1 : Int64) (q2 : Int64) (h0 : Heap) (n0 : Nat) :
    MetFree l (⟨"java/lang/Math", "min", "(JJ)J"⟩ : MethodName) (head1 (Jvm.Cond.code (⟨"java/lang/Math", "min", "(JJ)J"⟩ : MethodName) jdk_29_method_70_code 4 (some .long) :: ws) ({ frames := 0, cells := 0, slots := 0, locals := 0 } : Room)) (fun a U => a = #[(.long q1), (.long q2)] ∧ Z.Warmed39 U.vm ∧ U.heap = h0) (fun _ _ _ _ _ => True) (fun _ U o U' => ∃ v L, o = .returned v ∧ (PQ h0 n0 (.long (f1 q1 q2))) v U'.heap L ∧ FrameEnd U o U' L ({ frames := 0, cells := 0, slots := 0, locals := 0 } : Room).cells ({ frames := 0, cells := 0, slots := 0, locals := 0 } : Room).slots) := by
  refine MetFree.of_bodySF (Jvm.Free.JP.mathPlain rfl (by decide +kernel)) hisR ?_
  intro p e s m args below meth c s₁ Bd hml0 hP hK
  obtain ⟨rfl, hZ, hh⟩ := hP
  have hx := Bd.exec
  have hby := Bd.bytes
  have hml : c.maxLocals = 4 := hml0
  have hown : s.vm.findClass "java/lang/Math" = some m.cls := findClass_of_methodNamed Bd.named
  have hnm := (name_of_methodNamed Bd.named Bd.method).1
  have X0 : Stand p l e ({ frames := 0, cells := 0, slots := 0, locals := 0 } : Room) s m #[(.long q1), (.long q2)] below meth c s₁ [] 0 0 := Stand.of_body Bd
  have e0 : s₁.heap = h0 := by rw [← hh, Bd.state]; rfl
  have N0 := Fr.nil n0
  show WP p e below (GG (PQ h0 n0 (.long (f1 q1 q2))) s ({ frames := 0, cells := 0, slots := 0, locals := 0 } : Room).cells ({ frames := 0, cells := 0, slots := 0, locals := 0 } : Room).slots) (s₁.setTop (entryFrame m #[(.long q1), (.long q2)] 4))
  rw [ef_rm1 m q1 q2]
  show WP p e below _ (s₁.setTop (mkF m 0 #[.val (.long q1), .second, .val (.long q2), .second] []))
  refine own_go (fun t_ k => XS.lloadN X0.here hx rfl (hb hby d1_0) rfl k) ?_
  show WP p e below _ (s₁.setTop (mkF m 1 #[.val (.long q1), .second, .val (.long q2), .second] [(.long q1)]))
  refine own_go (fun t_ k => XS.lloadN X0.here hx rfl (hb hby d1_1) rfl k) ?_
  show WP p e below _ (s₁.setTop (mkF m 2 #[.val (.long q1), .second, .val (.long q2), .second] [(.long q2), (.long q1)]))
  refine own_go (fun t_ k => XS.lcmp X0.here hx rfl (hb hby d1_2) rfl k) ?_
  show WP p e below _ (s₁.setTop (mkF m 3 #[.val (.long q1), .second, .val (.long q2), .second] [(.int (lcmpW q1 q2))]))
  by_cases hc3_1 : q2 < q1
  · refine own_go (fun t_ k => XS.ifYes X0.here hx rfl (pc0 := 3) (pc' := 10) rfl (hb hby d1_3) rfl ((if0 _ _).trans (tlt ((lw_gt _ _).mpr hc3_1)).2.2.1) (by decide) (by decide) k) ?_
    show WP p e below _ (s₁.setTop (mkF m 10 #[.val (.long q1), .second, .val (.long q2), .second] []))
    refine own_go (fun t_ k => XS.lloadN X0.here hx rfl (hb hby d1_10) rfl k) ?_
    show WP p e below _ (s₁.setTop (mkF m 11 #[.val (.long q1), .second, .val (.long q2), .second] [(.long q2)]))
    exact own_retJ X0 hx Bd.notSynchronized Bd.returns (hb hby d1_11) (show PQ h0 n0 (.long (f1 q1 q2)) _ _ _ from ⟨by rw [f1, if_pos hc3_1], N0, e0⟩) (by decide) (by decide)
  · refine own_go (fun t_ k => XS.ifNo X0.here hx rfl (hb hby d1_3) rfl ((if0 _ _).trans (flt (mt (lw_gt _ _).mp hc3_1)).2.2.1) k) ?_
    show WP p e below _ (s₁.setTop (mkF m 6 #[.val (.long q1), .second, .val (.long q2), .second] []))
    refine own_go (fun t_ k => XS.lloadN X0.here hx rfl (hb hby d1_6) rfl k) ?_
    show WP p e below _ (s₁.setTop (mkF m 7 #[.val (.long q1), .second, .val (.long q2), .second] [(.long q1)]))
    refine own_go (fun t_ k => XS.goto X0.here hx rfl (pc0 := 7) (pc' := 11) rfl (hb hby d1_7) (by decide) (by decide) k) ?_
    show WP p e below _ (s₁.setTop (mkF m 11 #[.val (.long q1), .second, .val (.long q2), .second] [(.long q1)]))
    exact own_retJ X0 hx Bd.notSynchronized Bd.returns (hb hby d1_11) (show PQ h0 n0 (.long (f1 q1 q2)) _ _ _ from ⟨by rw [f1, if_neg hc3_1], N0, e0⟩) (by decide) (by decide)
def f2 (q1 : Int64) (q2 : Int64) : Int64 := (if q1 < q2 then q2 else q1)
theorem d2_0 : decode jdk_29_method_66_code 0 = .ok (.lload_n 0, 1) := by decide +kernel
theorem d2_1 : decode jdk_29_method_66_code 1 = .ok (.lload_n 2, 1) := by decide +kernel
theorem d2_2 : decode jdk_29_method_66_code 2 = .ok (.lcmp, 1) := by decide +kernel
theorem d2_3 : decode jdk_29_method_66_code 3 = .ok (.ifCond .lt 7, 3) := by decide +kernel
theorem d2_6 : decode jdk_29_method_66_code 6 = .ok (.lload_n 0, 1) := by decide +kernel
theorem d2_7 : decode jdk_29_method_66_code 7 = .ok (.goto 4, 3) := by decide +kernel
theorem d2_10 : decode jdk_29_method_66_code 10 = .ok (.lload_n 2, 1) := by decide +kernel
theorem d2_11 : decode jdk_29_method_66_code 11 = .ok (.lreturn, 1) := by decide +kernel
theorem ef_rm2 (m : MethodId) (x0 : Int64) (x1 : Int64) : entryFrame m #[(.long x0), (.long x1)] 4 = mkF m 0 #[.val (.long x0), .second, .val (.long x1), .second] [] := by first | (simp [entryFrame, mkF, argsToLocals, Value.category]; done) | rfl
set_option maxRecDepth 65536 in
set_option maxHeartbeats 40000000 in
theorem rm2 (l : Launch) (Z : State) (a0 : Array Value) (hw : ∀ d ∈ tables_1, d.before a0 Z = true) (ws : List Jvm.Cond) (q1 : Int64) (q2 : Int64) (h0 : Heap) (n0 : Nat) :
    MetFree l (⟨"java/lang/Math", "max", "(JJ)J"⟩ : MethodName) (head1 (Jvm.Cond.code (⟨"java/lang/Math", "max", "(JJ)J"⟩ : MethodName) jdk_29_method_66_code 4 (some .long) :: ws) ({ frames := 0, cells := 0, slots := 0, locals := 0 } : Room)) (fun a U => a = #[(.long q1), (.long q2)] ∧ Z.Warmed39 U.vm ∧ U.heap = h0) (fun _ _ _ _ _ => True) (fun _ U o U' => ∃ v L, o = .returned v ∧ (PQ h0 n0 (.long (f2 q1 q2))) v U'.heap L ∧ FrameEnd U o U' L ({ frames := 0, cells := 0, slots := 0, locals := 0 } : Room).cells ({ frames := 0, cells := 0, slots := 0, locals := 0 } : Room).slots) := by
  refine MetFree.of_bodySF (Jvm.Free.JP.mathPlain rfl (by decide +kernel)) hisR ?_
  intro p e s m args below meth c s₁ Bd hml0 hP hK
  obtain ⟨rfl, hZ, hh⟩ := hP
  have hx := Bd.exec
  have hby := Bd.bytes
  have hml : c.maxLocals = 4 := hml0
  have hown : s.vm.findClass "java/lang/Math" = some m.cls := findClass_of_methodNamed Bd.named
  have hnm := (name_of_methodNamed Bd.named Bd.method).1
  have X0 : Stand p l e ({ frames := 0, cells := 0, slots := 0, locals := 0 } : Room) s m #[(.long q1), (.long q2)] below meth c s₁ [] 0 0 := Stand.of_body Bd
  have e0 : s₁.heap = h0 := by rw [← hh, Bd.state]; rfl
  have N0 := Fr.nil n0
  show WP p e below (GG (PQ h0 n0 (.long (f2 q1 q2))) s ({ frames := 0, cells := 0, slots := 0, locals := 0 } : Room).cells ({ frames := 0, cells := 0, slots := 0, locals := 0 } : Room).slots) (s₁.setTop (entryFrame m #[(.long q1), (.long q2)] 4))
  rw [ef_rm2 m q1 q2]
  show WP p e below _ (s₁.setTop (mkF m 0 #[.val (.long q1), .second, .val (.long q2), .second] []))
  refine own_go (fun t_ k => XS.lloadN X0.here hx rfl (hb hby d2_0) rfl k) ?_
  show WP p e below _ (s₁.setTop (mkF m 1 #[.val (.long q1), .second, .val (.long q2), .second] [(.long q1)]))
  refine own_go (fun t_ k => XS.lloadN X0.here hx rfl (hb hby d2_1) rfl k) ?_
  show WP p e below _ (s₁.setTop (mkF m 2 #[.val (.long q1), .second, .val (.long q2), .second] [(.long q2), (.long q1)]))
  refine own_go (fun t_ k => XS.lcmp X0.here hx rfl (hb hby d2_2) rfl k) ?_
  show WP p e below _ (s₁.setTop (mkF m 3 #[.val (.long q1), .second, .val (.long q2), .second] [(.int (lcmpW q1 q2))]))
  by_cases hc3_1 : q1 < q2
  · refine own_go (fun t_ k => XS.ifYes X0.here hx rfl (pc0 := 3) (pc' := 10) rfl (hb hby d2_3) rfl ((if0 _ _).trans (tlt ((lw_lt _ _).mpr hc3_1)).1) (by decide) (by decide) k) ?_
    show WP p e below _ (s₁.setTop (mkF m 10 #[.val (.long q1), .second, .val (.long q2), .second] []))
    refine own_go (fun t_ k => XS.lloadN X0.here hx rfl (hb hby d2_10) rfl k) ?_
    show WP p e below _ (s₁.setTop (mkF m 11 #[.val (.long q1), .second, .val (.long q2), .second] [(.long q2)]))
    exact own_retJ X0 hx Bd.notSynchronized Bd.returns (hb hby d2_11) (show PQ h0 n0 (.long (f2 q1 q2)) _ _ _ from ⟨by rw [f2, if_pos hc3_1], N0, e0⟩) (by decide) (by decide)
  · refine own_go (fun t_ k => XS.ifNo X0.here hx rfl (hb hby d2_3) rfl ((if0 _ _).trans (flt (mt (lw_lt _ _).mp hc3_1)).1) k) ?_
    show WP p e below _ (s₁.setTop (mkF m 6 #[.val (.long q1), .second, .val (.long q2), .second] []))
    refine own_go (fun t_ k => XS.lloadN X0.here hx rfl (hb hby d2_6) rfl k) ?_
    show WP p e below _ (s₁.setTop (mkF m 7 #[.val (.long q1), .second, .val (.long q2), .second] [(.long q1)]))
    refine own_go (fun t_ k => XS.goto X0.here hx rfl (pc0 := 7) (pc' := 11) rfl (hb hby d2_7) (by decide) (by decide) k) ?_
    show WP p e below _ (s₁.setTop (mkF m 11 #[.val (.long q1), .second, .val (.long q2), .second] [(.long q1)]))
    exact own_retJ X0 hx Bd.notSynchronized Bd.returns (hb hby d2_11) (show PQ h0 n0 (.long (f2 q1 q2)) _ _ _ from ⟨by rw [f2, if_neg hc3_1], N0, e0⟩) (by decide) (by decide)
def LG (Z : State) (h : Heap) (a t : Addr) (k : ClassId) (xs : List Int64) : Prop :=
  Exa Z h a "com/example/vestry/vestry/Longs" ∧ Fld Z h a "com/example/vestry/vestry/Longs" "values" "[J" (.ref t) ∧ Fld Z h a "com/example/vestry/vestry/Longs" "size" "I" (.int (Int32.ofNat xs.length)) ∧ Arv Z h t k .long (1024 : Int32) (xs.map Value.long) (.long (0 : Int64)) ∧ a ≠ t
theorem own_len (n : Nat) (h : n < 1000) : (Int32.ofNat n).toInt = n ∧ (Int32.ofNat n).toNatClampNeg = n := by
  have e : (Int32.ofNat n).toInt = n := Int32.toInt_ofNat_small (by omega)
  refine ⟨e, ?_⟩
  simp only [Int32.toNatClampNeg, e]; omega
theorem own_full (n : Nat) (h : n < 1000) : ¬ (Int32.ofNat n = (1024 : Int32)) := fun q => by
  have e := (own_len n h).1
  rw [q] at e
  have o : (1024 : Int32).toInt = 1024 := rfl
  omega
theorem own_inb (n : Nat) (h : n < 1000) : ¬ Int32.ofNat n < 0 ∧ Int32.ofNat n < (1024 : Int32) := by
  have e := (own_len n h).1
  have o : (1024 : Int32).toInt = 1024 := rfl
  have o0 : (0 : Int32).toInt = 0 := rfl
  simp only [Int32.lt_iff_toInt_lt]
  omega
theorem own_put (xs : List Int64) (q : Int64) : ((xs.map Value.long) ++ List.replicate 1 (Value.long (0 : Int64))).set xs.length (.long q) = (xs ++ [q]).map Value.long := by
  rw [List.set_append_right _ _ (by simp)]
  simp
theorem own_succ (xs : List Int64) (q : Int64) (h : xs.length < 1000) : Int32.ofNat xs.length + 1 = Int32.ofNat (xs ++ [q]).length := by
  rw [List.length_append, Int32.ofNat_add]; rfl
def Q_rm_i2 (Z : State) (a1 : Addr) (a2 : Addr) (p3 : Int32) (h0 : Heap) (n0 : Nat) (v : Option Value) (h : Heap) (L : List Loc) : Prop := v = none ∧ Fr n0 L ∧ Keep h0 h [a1] ∧ Exa Z h a1 "com/example/vestry/vestry/Longs" ∧ Fld Z h a1 "com/example/vestry/vestry/Longs" "values" "[J" (.ref a2) ∧ Fld Z h a1 "com/example/vestry/vestry/Longs" "size" "I" (.int p3)
theorem d4_0 : decode prog_23_method_2_code 0 = .ok (.aload_n 0, 1) := by decide +kernel
theorem d4_1 : decode prog_23_method_2_code 1 = .ok (.invokespecial 9, 3) := by decide +kernel
theorem d4_4 : decode prog_23_method_2_code 4 = .ok (.aload_n 0, 1) := by decide +kernel
theorem d4_5 : decode prog_23_method_2_code 5 = .ok (.aload_n 1, 1) := by decide +kernel
theorem d4_6 : decode prog_23_method_2_code 6 = .ok (.putfield 14, 3) := by decide +kernel
theorem d4_9 : decode prog_23_method_2_code 9 = .ok (.aload_n 0, 1) := by decide +kernel
theorem d4_10 : decode prog_23_method_2_code 10 = .ok (.iload_n 2, 1) := by decide +kernel
theorem d4_11 : decode prog_23_method_2_code 11 = .ok (.putfield 18, 3) := by decide +kernel
theorem d4_14 : decode prog_23_method_2_code 14 = .ok (.return_, 1) := by decide +kernel
theorem pn_0 : plainName "com/example/vestry/vestry/Longs" = true := by first | (simp [plainName, overriddenIn]; done) | decide +kernel
theorem ef_rm_i2 (m : MethodId) (x0 : Addr) (x1 : Addr) (x2 : Int32) : entryFrame m #[(.ref x0), (.ref x1), (.int x2)] 3 = mkF m 0 #[.val (.ref x0), .val (.ref x1), .val (.int x2)] [] := by first | (simp [entryFrame, mkF, argsToLocals, Value.category]; done) | rfl
set_option maxRecDepth 65536 in
set_option maxHeartbeats 40000000 in
theorem rm_i2 (l : Launch) (Z : State) (a0 : Array Value) (hw : ∀ d ∈ tables_1, d.before a0 Z = true) (ws : List Jvm.Cond) (a1 : Addr) (a2 : Addr) (p3 : Int32) (h0 : Heap) (n0 : Nat) (E_a : Exa Z h0 a1 "com/example/vestry/vestry/Longs") (g_a : n0 ≤ a1) (F_v : Fld Z h0 a1 "com/example/vestry/vestry/Longs" "values" "[J" .null) (F_s : Fld Z h0 a1 "com/example/vestry/vestry/Longs" "size" "I" (.int (0 : Int32))) :
    MetFree l (⟨"com/example/vestry/vestry/Longs", "<init>", "([JI)V"⟩ : MethodName) (head1 (Jvm.Cond.code (⟨"com/example/vestry/vestry/Longs", "<init>", "([JI)V"⟩ : MethodName) prog_23_method_2_code 3 none :: ws) ({ frames := 1, cells := 0, slots := 0, locals := 12 } : Room)) (fun a U => a = #[(.ref a1), (.ref a2), (.int p3)] ∧ Z.Warmed39 U.vm ∧ U.heap = h0) (fun _ _ _ _ _ => True) (fun _ U o U' => ∃ v L, o = .returned v ∧ (Q_rm_i2 Z a1 a2 p3 h0 n0) v U'.heap L ∧ FrameEnd U o U' L ({ frames := 1, cells := 0, slots := 0, locals := 12 } : Room).cells ({ frames := 1, cells := 0, slots := 0, locals := 12 } : Room).slots) := by
  refine MetFree.of_bodySF (plainFor_of_name pn_0) hisR ?_
  intro p e s m args below meth c s₁ Bd hml0 hP hK
  obtain ⟨rfl, hZ, hh⟩ := hP
  have hx := Bd.exec
  have hby := Bd.bytes
  have hml : c.maxLocals = 3 := hml0
  have hown : s.vm.findClass "com/example/vestry/vestry/Longs" = some m.cls := findClass_of_methodNamed Bd.named
  have hnm := (name_of_methodNamed Bd.named Bd.method).1
  have X0 : Stand p l e ({ frames := 1, cells := 0, slots := 0, locals := 12 } : Room) s m #[(.ref a1), (.ref a2), (.int p3)] below meth c s₁ [] 0 0 := Stand.of_body Bd
  have e0 : s₁.heap = h0 := by rw [← hh, Bd.state]; rfl
  have N0 := Fr.nil n0
  show WP p e below (GG (Q_rm_i2 Z a1 a2 p3 h0 n0) s ({ frames := 1, cells := 0, slots := 0, locals := 12 } : Room).cells ({ frames := 1, cells := 0, slots := 0, locals := 12 } : Room).slots) (s₁.setTop (entryFrame m #[(.ref a1), (.ref a2), (.int p3)] 3))
  rw [ef_rm_i2 m a1 a2 p3]
  show WP p e below _ (s₁.setTop (mkF m 0 #[.val (.ref a1), .val (.ref a2), .val (.int p3)] []))
  refine own_go (fun t_ k => XS.aloadN X0.here hx rfl (hb hby d4_0) rfl rfl k) ?_
  show WP p e below _ (s₁.setTop (mkF m 1 #[.val (.ref a1), .val (.ref a2), .val (.int p3)] [(.ref a1)]))
  obtain ⟨T1, X1, e1, st1⟩ := initO X0 hx hZ hown (hw _ (List.mem_of_getElem? (i := 17) rfl)) (hw _ (List.mem_of_getElem? (i := 18) rfl)) (hw _ (List.mem_of_getElem? (i := 19) rfl)) e0 (g := (mkF m 1 #[.val (.ref a1), .val (.ref a2), .val (.int p3)] [(.ref a1)])) rfl (by rw [hml]; rfl) rfl (hb hby d4_1) (by decide) (W := 0) (by show 2 * 0 + _ ≤ _; exact Nat.le_of_eq rfl) (by decide)
  refine own_go st1 ?_
  show WP p e below _ (T1.setTop (mkF m 4 #[.val (.ref a1), .val (.ref a2), .val (.int p3)] []))
  refine own_go (fun t_ k => XS.aloadN X1.here hx rfl (hb hby d4_4) rfl rfl k) ?_
  show WP p e below _ (T1.setTop (mkF m 5 #[.val (.ref a1), .val (.ref a2), .val (.int p3)] [(.ref a1)]))
  refine own_go (fun t_ k => XS.aloadN X1.here hx rfl (hb hby d4_5) rfl rfl k) ?_
  show WP p e below _ (T1.setTop (mkF m 6 #[.val (.ref a1), .val (.ref a2), .val (.int p3)] [(.ref a2), (.ref a1)]))
  obtain ⟨T2, h2, X2, e2, W2, st2⟩ := putF X1 hx hZ hown (host := "") (Or.inl (hw _ (List.mem_of_getElem? (i := 20) rfl))) Via.refl e1 F_v E_a (Or.inl (hw _ (List.mem_of_getElem? (i := 21) rfl))) (hw _ (List.mem_of_getElem? (i := 8) rfl)) (ty := (.array .long)) (by decide) rfl rfl (g := (mkF m 6 #[.val (.ref a1), .val (.ref a2), .val (.int p3)] [(.ref a2), (.ref a1)])) rfl rfl (hb hby d4_6)
  refine own_go st2 ?_
  have Fw2 := F_v.same W2
  have N2 := Fr.snoc X2 N0 g_a
  have K2 : Keep h0 h2 [a1] := (Keep.refl h0 [a1]).wr W2 (Or.inl (List.mem_of_getElem? (i := 0) rfl))
  show WP p e below _ (T2.setTop (mkF m 9 #[.val (.ref a1), .val (.ref a2), .val (.int p3)] []))
  refine own_go (fun t_ k => XS.aloadN X2.here hx rfl (hb hby d4_9) rfl rfl k) ?_
  show WP p e below _ (T2.setTop (mkF m 10 #[.val (.ref a1), .val (.ref a2), .val (.int p3)] [(.ref a1)]))
  refine own_go (fun t_ k => XS.iloadN X2.here hx rfl (hb hby d4_10) rfl k) ?_
  show WP p e below _ (T2.setTop (mkF m 11 #[.val (.ref a1), .val (.ref a2), .val (.int p3)] [(.int p3), (.ref a1)]))
  obtain ⟨T3, h3, X3, e3, W3, st3⟩ := putF X2 hx hZ hown (host := "") (Or.inl (hw _ (List.mem_of_getElem? (i := 22) rfl))) Via.refl e2 (F_s.other W2 (Or.inr (slot_ne (Or.inl (hw _ (List.mem_of_getElem? (i := 23) rfl))) (Or.inl (hw _ (List.mem_of_getElem? (i := 21) rfl))) (by decide) (t := .int) (t' := (.array .long)) (by decide) (by decide)))) (E_a.wr W2) (Or.inl (hw _ (List.mem_of_getElem? (i := 23) rfl))) (hw _ (List.mem_of_getElem? (i := 8) rfl)) (ty := .int) (by decide) rfl rfl (g := (mkF m 11 #[.val (.ref a1), .val (.ref a2), .val (.int p3)] [(.int p3), (.ref a1)])) rfl rfl (hb hby d4_11)
  refine own_go st3 ?_
  have Fw3 := (F_s.other W2 (Or.inr (slot_ne (Or.inl (hw _ (List.mem_of_getElem? (i := 23) rfl))) (Or.inl (hw _ (List.mem_of_getElem? (i := 21) rfl))) (by decide) (t := .int) (t' := (.array .long)) (by decide) (by decide)))).same W3
  have N3 := Fr.snoc X3 N2 g_a
  have K3 : Keep h0 h3 [a1] := K2.wr W3 (Or.inl (List.mem_of_getElem? (i := 0) rfl))
  show WP p e below _ (T3.setTop (mkF m 14 #[.val (.ref a1), .val (.ref a2), .val (.int p3)] []))
  exact own_ret0 X3 hx Bd.notSynchronized Bd.returns (hb hby d4_14) (by rw [e3]; exact ⟨rfl, N3, K3, ((E_a.wr W2).wr W3), (Fw2.other W3 (Or.inr (slot_ne (Or.inl (hw _ (List.mem_of_getElem? (i := 21) rfl))) (Or.inl (hw _ (List.mem_of_getElem? (i := 23) rfl))) (by decide) (t := (.array .long)) (t' := .int) (by decide) (by decide)))), Fw3⟩) (by decide) (by decide)
def Q_rm_i0 (Z : State) (a1 : Addr) (h0 : Heap) (n0 : Nat) (v : Option Value) (h : Heap) (L : List Loc) : Prop := v = none ∧ Fr n0 L ∧ Keep h0 h [a1] ∧ ∃ t k, n0 ≤ t ∧ h0.size ≤ t ∧ LG Z h a1 t k []
theorem pd_0 : parseMethodDescriptor "([JI)V" = some ⟨[(.array .long), .int], none⟩ := by decide +kernel
theorem d3_0 : decode prog_23_method_1_code 0 = .ok (.aload_n 0, 1) := by decide +kernel
theorem d3_1 : decode prog_23_method_1_code 1 = .ok (.sipush 1024, 3) := by decide +kernel
theorem d3_4 : decode prog_23_method_1_code 4 = .ok (.newarray .long, 2) := by decide +kernel
theorem d3_6 : decode prog_23_method_1_code 6 = .ok (.iconst 0, 1) := by decide +kernel
theorem d3_7 : decode prog_23_method_1_code 7 = .ok (.invokespecial 5, 3) := by decide +kernel
theorem d3_10 : decode prog_23_method_1_code 10 = .ok (.return_, 1) := by decide +kernel
theorem ef_rm_i0 (m : MethodId) (x0 : Addr) : entryFrame m #[(.ref x0)] 1 = mkF m 0 #[.val (.ref x0)] [] := by first | (simp [entryFrame, mkF, argsToLocals, Value.category]; done) | rfl
set_option maxRecDepth 65536 in
set_option maxHeartbeats 40000000 in
theorem rm_i0 (l : Launch) (Z : State) (a0 : Array Value) (hw : ∀ d ∈ tables_1, d.before a0 Z = true) (ws : List Jvm.Cond) (a1 : Addr) (h0 : Heap) (n0 : Nat) (Z0 : n0 ≤ h0.size) (E_a : Exa Z h0 a1 "com/example/vestry/vestry/Longs") (g_a : n0 ≤ a1) (F_v : Fld Z h0 a1 "com/example/vestry/vestry/Longs" "values" "[J" .null) (F_s : Fld Z h0 a1 "com/example/vestry/vestry/Longs" "size" "I" (.int (0 : Int32))) :
    MetFree l (⟨"com/example/vestry/vestry/Longs", "<init>", "()V"⟩ : MethodName) (head1 (Jvm.Cond.code (⟨"com/example/vestry/vestry/Longs", "<init>", "()V"⟩ : MethodName) prog_23_method_1_code 1 none :: ws) ({ frames := 2, cells := 1, slots := 1024, locals := 26 } : Room)) (fun a U => a = #[(.ref a1)] ∧ Z.Warmed39 U.vm ∧ U.heap = h0) (fun _ _ _ _ _ => True) (fun _ U o U' => ∃ v L, o = .returned v ∧ (Q_rm_i0 Z a1 h0 n0) v U'.heap L ∧ FrameEnd U o U' L ({ frames := 2, cells := 1, slots := 1024, locals := 26 } : Room).cells ({ frames := 2, cells := 1, slots := 1024, locals := 26 } : Room).slots) := by
  refine MetFree.of_bodySF (plainFor_of_name pn_0) hisR ?_
  intro p e s m args below meth c s₁ Bd hml0 hP hK
  obtain ⟨rfl, hZ, hh⟩ := hP
  have hx := Bd.exec
  have hby := Bd.bytes
  have hml : c.maxLocals = 1 := hml0
  have hown : s.vm.findClass "com/example/vestry/vestry/Longs" = some m.cls := findClass_of_methodNamed Bd.named
  have hnm := (name_of_methodNamed Bd.named Bd.method).1
  have X0 : Stand p l e ({ frames := 2, cells := 1, slots := 1024, locals := 26 } : Room) s m #[(.ref a1)] below meth c s₁ [] 0 0 := Stand.of_body Bd
  have e0 : s₁.heap = h0 := by rw [← hh, Bd.state]; rfl
  have N0 := Fr.nil n0
  show WP p e below (GG (Q_rm_i0 Z a1 h0 n0) s ({ frames := 2, cells := 1, slots := 1024, locals := 26 } : Room).cells ({ frames := 2, cells := 1, slots := 1024, locals := 26 } : Room).slots) (s₁.setTop (entryFrame m #[(.ref a1)] 1))
  rw [ef_rm_i0 m a1]
  show WP p e below _ (s₁.setTop (mkF m 0 #[.val (.ref a1)] []))
  refine own_go (fun t_ k => XS.aloadN X0.here hx rfl (hb hby d3_0) rfl rfl k) ?_
  show WP p e below _ (s₁.setTop (mkF m 1 #[.val (.ref a1)] [(.ref a1)]))
  refine own_go (fun t_ k => XS.sipush X0.here hx rfl (hb hby d3_1) k) ?_
  show WP p e below _ (s₁.setTop (mkF m 4 #[.val (.ref a1)] [(.int (1024 : Int32)), (.ref a1)]))
  obtain ⟨T1, h1, k1, X1, e1, E1, A1, st1⟩ := newP X0 hx hZ (hw _ (List.mem_of_getElem? (i := 13) rfl)) e0 (g := (mkF m 4 #[.val (.ref a1)] [(.int (1024 : Int32)), (.ref a1)])) rfl (hb hby d3_4) rfl (by decide) (cap := 1024) (by decide) (by decide) (by decide) (by decide)
  obtain ⟨b1, g1⟩ : ∃ z, z = Array.size h0 := ⟨_, rfl⟩
  rw [← g1] at A1 st1
  refine own_go st1 ?_
  have g_b1 : n0 ≤ b1 := Nat.le_trans (Nat.le_trans Z0 (Keep.refl h0 [a1]).1) (Nat.le_of_eq g1.symm)
  have sz_b1 : h0.size ≤ b1 := Nat.le_trans (Keep.refl h0 [a1]).1 (Nat.le_of_eq g1.symm)
  have ne_a1_b1 : a1 ≠ b1 := Nat.ne_of_lt (Nat.lt_of_lt_of_le E_a.lt (Nat.le_of_eq g1.symm))
  have K1 : Keep h0 h1 [a1] := (Keep.refl h0 [a1]).ext E1
  have V1 : Arv Z h1 b1 k1 .long (1024 : Int32) [] (.long (0 : Int64)) := Arv.new A1 (by decide)
  show WP p e below _ (T1.setTop (mkF m 6 #[.val (.ref a1)] [(.ref b1), (.ref a1)]))
  refine own_go (fun t_ k => XS.iconst X1.here hx rfl (hb hby d3_6) k) ?_
  show WP p e below _ (T1.setTop (mkF m 7 #[.val (.ref a1)] [(.int (0 : Int32)), (.ref b1), (.ref a1)]))
  obtain ⟨_, _, ⟨T2, L2, k2, n2⟩, -, X2, ⟨Lc2, hQ2, l2, y2, z2⟩, st2⟩ := X1.specialBack hx (y := (⟨"com/example/vestry/vestry/Longs", "<init>", "([JI)V"⟩ : MethodName)) rfl hown (mvT hZ (hw _ (List.mem_of_getElem? (i := 14) rfl))) (mvT hZ (hw _ (List.mem_of_getElem? (i := 15) rfl))) (mvT hZ (hw _ (List.mem_of_getElem? (i := 16) rfl))) (by decide) (backOf (W := 0) (rm_i2 l Z a0 hw [] a1 b1 (0 : Int32) h1 n0 (E_a.ext E1) g_a (F_v.ext E1) (F_s.ext E1)) hZ (hw _ (List.mem_of_getElem? (i := 16) rfl)) (hw _ (List.mem_of_getElem? (i := 9) rfl)) (by decide) (by decide)) (g := (mkF m 7 #[.val (.ref a1)] [(.int (0 : Int32)), (.ref b1), (.ref a1)])) rfl (by rw [hml]; rfl) (Steps.refl _) (a := a1) (argsL := [(.ref b1), (.int (0 : Int32))]) (rest := []) (lenOf pd_0 rfl) rfl (by show 2 * 0 + _ ≤ _; exact Nat.le_of_eq rfl) (hb hby d3_7) (fun _ _ => ⟨rfl, e1, (by decide : 1 + 0 ≤ _), (by decide : 1024 + 0 ≤ _)⟩)
  dsimp only [Pt.U, Pt.locs, Pt.cells, Pt.slots] at X2 l2 y2 z2 st2 hQ2
  subst l2 y2 z2
  obtain ⟨rfl, N2q, K2c, E2c, Fv2, Fs2⟩ := hQ2
  have N2 := Fr.app N0 N2q
  replace X2 : Stand p l e ({ frames := 2, cells := 1, slots := 1024, locals := 26 } : Room) s m _ below meth c T2 _ 1 1024 := X2
  refine own_go (fun t_ k => st2.trans k) ?_
  have K2 : Keep h0 T2.heap [a1] := K1.trans K2c (allS (Or.inl (List.mem_of_getElem? (i := 0) rfl)) all0)
  show WP p e below _ (T2.setTop (mkF m 10 #[.val (.ref a1)] []))
  exact own_ret0 X2 hx Bd.notSynchronized Bd.returns (hb hby d3_10) (by (try rw [rfl]); exact ⟨rfl, N2, K2, b1, k1, g_b1, sz_b1, E2c, Fv2, Fs2, (V1.keep K2c (ninS (Ne.symm ne_a1_b1) nin0)), ne_a1_b1⟩) (by decide) (by decide)
def Q_rm_add (Z : State) (a1 : Addr) (q2 : Int64) (t : Addr) (k : ClassId) (xs : List Int64) (h0 : Heap) (n0 : Nat) (v : Option Value) (h : Heap) (L : List Loc) : Prop := v = none ∧ Fr n0 L ∧ Keep h0 h [a1, t] ∧ LG Z h a1 t k (xs ++ [q2])
theorem d6_0 : decode prog_23_method_3_code 0 = .ok (.aload_n 0, 1) := by decide +kernel
theorem d6_1 : decode prog_23_method_3_code 1 = .ok (.getfield 18, 3) := by decide +kernel
theorem d6_4 : decode prog_23_method_3_code 4 = .ok (.aload_n 0, 1) := by decide +kernel
theorem d6_5 : decode prog_23_method_3_code 5 = .ok (.getfield 14, 3) := by decide +kernel
theorem d6_8 : decode prog_23_method_3_code 8 = .ok (.arraylength, 1) := by decide +kernel
theorem d6_9 : decode prog_23_method_3_code 9 = .ok (.if_icmp .ne 57, 3) := by decide +kernel
theorem d6_66 : decode prog_23_method_3_code 66 = .ok (.aload_n 0, 1) := by decide +kernel
theorem d6_67 : decode prog_23_method_3_code 67 = .ok (.getfield 14, 3) := by decide +kernel
theorem d6_70 : decode prog_23_method_3_code 70 = .ok (.aload_n 0, 1) := by decide +kernel
theorem d6_71 : decode prog_23_method_3_code 71 = .ok (.getfield 18, 3) := by decide +kernel
theorem d6_74 : decode prog_23_method_3_code 74 = .ok (.lload_n 1, 1) := by decide +kernel
theorem d6_75 : decode prog_23_method_3_code 75 = .ok (.lastore, 1) := by decide +kernel
theorem d6_76 : decode prog_23_method_3_code 76 = .ok (.aload_n 0, 1) := by decide +kernel
theorem d6_77 : decode prog_23_method_3_code 77 = .ok (.dup, 1) := by decide +kernel
theorem d6_78 : decode prog_23_method_3_code 78 = .ok (.getfield 18, 3) := by decide +kernel
theorem d6_81 : decode prog_23_method_3_code 81 = .ok (.iconst 1, 1) := by decide +kernel
theorem d6_82 : decode prog_23_method_3_code 82 = .ok (.iadd, 1) := by decide +kernel
theorem d6_83 : decode prog_23_method_3_code 83 = .ok (.putfield 18, 3) := by decide +kernel
theorem d6_86 : decode prog_23_method_3_code 86 = .ok (.return_, 1) := by decide +kernel
theorem ef_rm_add (m : MethodId) (x0 : Addr) (x1 : Int64) : entryFrame m #[(.ref x0), (.long x1)] 5 = mkF m 0 #[.val (.ref x0), .val (.long x1), .second, .unset, .unset] [] := by first | (simp [entryFrame, mkF, argsToLocals, Value.category]; done) | rfl
set_option maxRecDepth 65536 in
set_option maxHeartbeats 40000000 in
theorem rm_add (l : Launch) (Z : State) (a0 : Array Value) (hw : ∀ d ∈ tables_1, d.before a0 Z = true) (ws : List Jvm.Cond) (a1 : Addr) (q2 : Int64) (t : Addr) (k : ClassId) (xs : List Int64) (h0 : Heap) (n0 : Nat) (G : LG Z h0 a1 t k xs) (g_a : n0 ≤ a1) (g_t : n0 ≤ t) (hl : xs.length < 1000) :
    MetFree l (⟨"com/example/vestry/vestry/Longs", "add", "(J)V"⟩ : MethodName) (head1 (Jvm.Cond.code (⟨"com/example/vestry/vestry/Longs", "add", "(J)V"⟩ : MethodName) prog_23_method_3_code 5 none :: ws) ({ frames := 0, cells := 0, slots := 0, locals := 0 } : Room)) (fun a U => a = #[(.ref a1), (.long q2)] ∧ Z.Warmed39 U.vm ∧ U.heap = h0) (fun _ _ _ _ _ => True) (fun _ U o U' => ∃ v L, o = .returned v ∧ (Q_rm_add Z a1 q2 t k xs h0 n0) v U'.heap L ∧ FrameEnd U o U' L ({ frames := 0, cells := 0, slots := 0, locals := 0 } : Room).cells ({ frames := 0, cells := 0, slots := 0, locals := 0 } : Room).slots) := by
  refine MetFree.of_bodySF (plainFor_of_name pn_0) hisR ?_
  intro p e s m args below meth c s₁ Bd hml0 hP hK
  obtain ⟨rfl, hZ, hh⟩ := hP
  have hx := Bd.exec
  have hby := Bd.bytes
  have hml : c.maxLocals = 5 := hml0
  have hown : s.vm.findClass "com/example/vestry/vestry/Longs" = some m.cls := findClass_of_methodNamed Bd.named
  have hnm := (name_of_methodNamed Bd.named Bd.method).1
  have X0 : Stand p l e ({ frames := 0, cells := 0, slots := 0, locals := 0 } : Room) s m #[(.ref a1), (.long q2)] below meth c s₁ [] 0 0 := Stand.of_body Bd
  have e0 : s₁.heap = h0 := by rw [← hh, Bd.state]; rfl
  have N0 := Fr.nil n0
  show WP p e below (GG (Q_rm_add Z a1 q2 t k xs h0 n0) s ({ frames := 0, cells := 0, slots := 0, locals := 0 } : Room).cells ({ frames := 0, cells := 0, slots := 0, locals := 0 } : Room).slots) (s₁.setTop (entryFrame m #[(.ref a1), (.long q2)] 5))
  rw [ef_rm_add m a1 q2]
  obtain ⟨E_a, F_v, F_s, V_t, ne_t⟩ := G
  have V_p := V_t.pad (pad_rep _ (Value.long (0 : Int64)) 1)
  show WP p e below _ (s₁.setTop (mkF m 0 #[.val (.ref a1), .val (.long q2), .second, .unset, .unset] []))
  refine own_go (fun t_ k => XS.aloadN X0.here hx rfl (hb hby d6_0) rfl rfl k) ?_
  show WP p e below _ (s₁.setTop (mkF m 1 #[.val (.ref a1), .val (.long q2), .second, .unset, .unset] [(.ref a1)]))
  obtain ⟨T1, X1, e1, st1⟩ := getF X0 hx hZ hown (host := "") (Or.inl (hw _ (List.mem_of_getElem? (i := 22) rfl))) Via.refl e0 F_s (g := (mkF m 1 #[.val (.ref a1), .val (.long q2), .second, .unset, .unset] [(.ref a1)])) rfl rfl (hb hby d6_1)
  refine own_go st1 ?_
  show WP p e below _ (T1.setTop (mkF m 4 #[.val (.ref a1), .val (.long q2), .second, .unset, .unset] [(.int (Int32.ofNat xs.length))]))
  refine own_go (fun t_ k => XS.aloadN X1.here hx rfl (hb hby d6_4) rfl rfl k) ?_
  show WP p e below _ (T1.setTop (mkF m 5 #[.val (.ref a1), .val (.long q2), .second, .unset, .unset] [(.ref a1), (.int (Int32.ofNat xs.length))]))
  obtain ⟨T2, X2, e2, st2⟩ := getF X1 hx hZ hown (host := "") (Or.inl (hw _ (List.mem_of_getElem? (i := 20) rfl))) Via.refl e1 F_v (g := (mkF m 5 #[.val (.ref a1), .val (.long q2), .second, .unset, .unset] [(.ref a1), (.int (Int32.ofNat xs.length))])) rfl rfl (hb hby d6_5)
  refine own_go st2 ?_
  show WP p e below _ (T2.setTop (mkF m 8 #[.val (.ref a1), .val (.long q2), .second, .unset, .unset] [(.ref t), (.int (Int32.ofNat xs.length))]))
  obtain ⟨cl3, Ar3, -, S3, M3, -, -⟩ := id (V_p)
  refine own_go (fun t_ k => X2.arraylength hx (by rw [e2]; exact Ar3.1) (State.isArrayOf_alike hZ.alike Ar3.2.1) (g := (mkF m 8 #[.val (.ref a1), .val (.long q2), .second, .unset, .unset] [(.ref t), (.int (Int32.ofNat xs.length))])) rfl rfl (hb hby d6_8) _ (by rw [len_of S3 M3]; exact k)) ?_
  show WP p e below _ (T2.setTop (mkF m 9 #[.val (.ref a1), .val (.long q2), .second, .unset, .unset] [(.int (1024 : Int32)), (.int (Int32.ofNat xs.length))]))
  have hc9_4 : ¬ ((Int32.ofNat xs.length) = (1024 : Int32)) := own_full _ hl
  refine own_go (fun t_ k => XS.icmpYes X2.here hx rfl (pc0 := 9) (pc' := 66) rfl (hb hby d6_9) rfl (feq hc9_4).2 (by decide) (by decide) k) ?_
  show WP p e below _ (T2.setTop (mkF m 66 #[.val (.ref a1), .val (.long q2), .second, .unset, .unset] []))
  refine own_go (fun t_ k => XS.aloadN X2.here hx rfl (hb hby d6_66) rfl rfl k) ?_
  show WP p e below _ (T2.setTop (mkF m 67 #[.val (.ref a1), .val (.long q2), .second, .unset, .unset] [(.ref a1)]))
  obtain ⟨T5, X5, e5, st5⟩ := getF X2 hx hZ hown (host := "") (Or.inl (hw _ (List.mem_of_getElem? (i := 20) rfl))) Via.refl e2 F_v (g := (mkF m 67 #[.val (.ref a1), .val (.long q2), .second, .unset, .unset] [(.ref a1)])) rfl rfl (hb hby d6_67)
  refine own_go st5 ?_
  show WP p e below _ (T5.setTop (mkF m 70 #[.val (.ref a1), .val (.long q2), .second, .unset, .unset] [(.ref t)]))
  refine own_go (fun t_ k => XS.aloadN X5.here hx rfl (hb hby d6_70) rfl rfl k) ?_
  show WP p e below _ (T5.setTop (mkF m 71 #[.val (.ref a1), .val (.long q2), .second, .unset, .unset] [(.ref a1), (.ref t)]))
  obtain ⟨T6, X6, e6, st6⟩ := getF X5 hx hZ hown (host := "") (Or.inl (hw _ (List.mem_of_getElem? (i := 22) rfl))) Via.refl e5 F_s (g := (mkF m 71 #[.val (.ref a1), .val (.long q2), .second, .unset, .unset] [(.ref a1), (.ref t)])) rfl rfl (hb hby d6_71)
  refine own_go st6 ?_
  show WP p e below _ (T6.setTop (mkF m 74 #[.val (.ref a1), .val (.long q2), .second, .unset, .unset] [(.int (Int32.ofNat xs.length)), (.ref t)]))
  refine own_go (fun t_ k => XS.lloadN X6.here hx rfl (hb hby d6_74) rfl k) ?_
  show WP p e below _ (T6.setTop (mkF m 75 #[.val (.ref a1), .val (.long q2), .second, .unset, .unset] [(.long q2), (.int (Int32.ofNat xs.length)), (.ref t)]))
  obtain ⟨cl7, Ar7, q7, S7, M7, H7, G7⟩ := id (V_p)
  have hin7 : ¬ ((Int32.ofNat xs.length) < 0 ∨ cl7.slots.size ≤ ((Int32.ofNat xs.length)).toNatClampNeg) := inb_of S7 (own_inb _ hl)
  obtain ⟨T8, h8, X8, e8, W8, st8⟩ := stJ X6 hx hZ e6 Ar7 (j := (Int32.ofNat xs.length)) hin7 (g := (mkF m 75 #[.val (.ref a1), .val (.long q2), .second, .unset, .unset] [(.long q2), (.int (Int32.ofNat xs.length)), (.ref t)])) rfl rfl (hb hby d6_75)
  refine own_go st8 ?_
  have V8 := Arv.set Ar7 q7 S7 M7 H7 G7 rfl W8 xs.length (own_len _ hl).2 (by simp)
  have N8 := Fr.snoc X8 N0 g_t
  have K8 : Keep h0 h8 [a1, t] := (Keep.refl h0 [a1, t]).wr W8 (Or.inl (List.mem_of_getElem? (i := 1) rfl))
  show WP p e below _ (T8.setTop (mkF m 76 #[.val (.ref a1), .val (.long q2), .second, .unset, .unset] []))
  refine own_go (fun t_ k => XS.aloadN X8.here hx rfl (hb hby d6_76) rfl rfl k) ?_
  show WP p e below _ (T8.setTop (mkF m 77 #[.val (.ref a1), .val (.long q2), .second, .unset, .unset] [(.ref a1)]))
  refine own_go (fun t_ k => XS.dup X8.here hx rfl (hb hby d6_77) rfl rfl k) ?_
  show WP p e below _ (T8.setTop (mkF m 78 #[.val (.ref a1), .val (.long q2), .second, .unset, .unset] [(.ref a1), (.ref a1)]))
  obtain ⟨T9, X9, e9, st9⟩ := getF X8 hx hZ hown (host := "") (Or.inl (hw _ (List.mem_of_getElem? (i := 22) rfl))) Via.refl e8 (F_s.other W8 (Or.inl ne_t)) (g := (mkF m 78 #[.val (.ref a1), .val (.long q2), .second, .unset, .unset] [(.ref a1), (.ref a1)])) rfl rfl (hb hby d6_78)
  refine own_go st9 ?_
  show WP p e below _ (T9.setTop (mkF m 81 #[.val (.ref a1), .val (.long q2), .second, .unset, .unset] [(.int (Int32.ofNat xs.length)), (.ref a1)]))
  refine own_go (fun t_ k => XS.iconst X9.here hx rfl (hb hby d6_81) k) ?_
  show WP p e below _ (T9.setTop (mkF m 82 #[.val (.ref a1), .val (.long q2), .second, .unset, .unset] [(.int (1 : Int32)), (.int (Int32.ofNat xs.length)), (.ref a1)]))
  refine own_go (fun t_ k => XS.iadd X9.here hx rfl (hb hby d6_82) rfl k) ?_
  show WP p e below _ (T9.setTop (mkF m 83 #[.val (.ref a1), .val (.long q2), .second, .unset, .unset] [(.int ((Int32.ofNat xs.length) + (1 : Int32))), (.ref a1)]))
  obtain ⟨T10, h10, X10, e10, W10, st10⟩ := putF X9 hx hZ hown (host := "") (Or.inl (hw _ (List.mem_of_getElem? (i := 22) rfl))) Via.refl e9 (F_s.other W8 (Or.inl ne_t)) (E_a.wr W8) (Or.inl (hw _ (List.mem_of_getElem? (i := 23) rfl))) (hw _ (List.mem_of_getElem? (i := 8) rfl)) (ty := .int) (by decide) rfl rfl (g := (mkF m 83 #[.val (.ref a1), .val (.long q2), .second, .unset, .unset] [(.int ((Int32.ofNat xs.length) + (1 : Int32))), (.ref a1)])) rfl rfl (hb hby d6_83)
  refine own_go st10 ?_
  have Fw10 := (F_s.other W8 (Or.inl ne_t)).same W10
  have N10 := Fr.snoc X10 N8 g_a
  have K10 : Keep h0 h10 [a1, t] := K8.wr W10 (Or.inl (List.mem_of_getElem? (i := 0) rfl))
  show WP p e below _ (T10.setTop (mkF m 86 #[.val (.ref a1), .val (.long q2), .second, .unset, .unset] []))
  exact own_ret0 X10 hx Bd.notSynchronized Bd.returns (hb hby d6_86) (by rw [e10]; exact ⟨rfl, N10, K10, ((E_a.wr W8).wr W10), ((F_v.other W8 (Or.inl ne_t)).other W10 (Or.inr (slot_ne (Or.inl (hw _ (List.mem_of_getElem? (i := 21) rfl))) (Or.inl (hw _ (List.mem_of_getElem? (i := 23) rfl))) (by decide) (t := (.array .long)) (t' := .int) (by decide) (by decide)))), (own_succ xs q2 hl ▸ Fw10), (own_put xs q2 ▸ (V8.other W10 (Ne.symm ne_t))), ne_t⟩) (by decide) (by decide)
theorem d10_0 : decode jdk_41_method_11_code 0 = .ok (.iload_n 0, 1) := by decide +kernel
theorem d10_1 : decode jdk_41_method_11_code 1 = .ok (.ifCond .lt 8, 3) := by decide +kernel
theorem d10_4 : decode jdk_41_method_11_code 4 = .ok (.iload_n 0, 1) := by decide +kernel
theorem d10_5 : decode jdk_41_method_11_code 5 = .ok (.iload_n 1, 1) := by decide +kernel
theorem d10_6 : decode jdk_41_method_11_code 6 = .ok (.if_icmp .lt 10, 3) := by decide +kernel
theorem d10_16 : decode jdk_41_method_11_code 16 = .ok (.iload_n 0, 1) := by decide +kernel
theorem d10_17 : decode jdk_41_method_11_code 17 = .ok (.ireturn, 1) := by decide +kernel
theorem pn_1 : plainName "jdk/internal/util/Preconditions" = true := by first | (simp [plainName, overriddenIn]; done) | decide +kernel
theorem ef_rm_chk2 (m : MethodId) (x0 : Int32) (x1 : Int32) : entryFrame m #[(.int x0), (.int x1), .null] 3 = mkF m 0 #[.val (.int x0), .val (.int x1), .val .null] [] := by first | (simp [entryFrame, mkF, argsToLocals, Value.category]; done) | rfl
set_option maxRecDepth 65536 in
set_option maxHeartbeats 40000000 in
theorem rm_chk2 (l : Launch) (Z : State) (a0 : Array Value) (hw : ∀ d ∈ tables_1, d.before a0 Z = true) (ws : List Jvm.Cond) (p1 : Int32) (p2 : Int32) (h0 : Heap) (n0 : Nat) (c0 : ¬ (p1 < (0 : Int32))) (c1 : p1 < p2) :
    MetFree l (⟨"jdk/internal/util/Preconditions", "checkIndex", "(IILjava/util/function/BiFunction;)I"⟩ : MethodName) (head1 (Jvm.Cond.code (⟨"jdk/internal/util/Preconditions", "checkIndex", "(IILjava/util/function/BiFunction;)I"⟩ : MethodName) jdk_41_method_11_code 3 (some .int) :: ws) ({ frames := 0, cells := 0, slots := 0, locals := 0 } : Room)) (fun a U => a = #[(.int p1), (.int p2), .null] ∧ Z.Warmed39 U.vm ∧ U.heap = h0) (fun _ _ _ _ _ => True) (fun _ U o U' => ∃ v L, o = .returned v ∧ (PQ h0 n0 (.int p1)) v U'.heap L ∧ FrameEnd U o U' L ({ frames := 0, cells := 0, slots := 0, locals := 0 } : Room).cells ({ frames := 0, cells := 0, slots := 0, locals := 0 } : Room).slots) := by
  refine MetFree.of_bodySF (plainFor_of_name pn_1) hisR ?_
  intro p e s m args below meth c s₁ Bd hml0 hP hK
  obtain ⟨rfl, hZ, hh⟩ := hP
  have hx := Bd.exec
  have hby := Bd.bytes
  have hml : c.maxLocals = 3 := hml0
  have hown : s.vm.findClass "jdk/internal/util/Preconditions" = some m.cls := findClass_of_methodNamed Bd.named
  have hnm := (name_of_methodNamed Bd.named Bd.method).1
  have X0 : Stand p l e ({ frames := 0, cells := 0, slots := 0, locals := 0 } : Room) s m #[(.int p1), (.int p2), .null] below meth c s₁ [] 0 0 := Stand.of_body Bd
  have e0 : s₁.heap = h0 := by rw [← hh, Bd.state]; rfl
  have N0 := Fr.nil n0
  show WP p e below (GG (PQ h0 n0 (.int p1)) s ({ frames := 0, cells := 0, slots := 0, locals := 0 } : Room).cells ({ frames := 0, cells := 0, slots := 0, locals := 0 } : Room).slots) (s₁.setTop (entryFrame m #[(.int p1), (.int p2), .null] 3))
  rw [ef_rm_chk2 m p1 p2]
  show WP p e below _ (s₁.setTop (mkF m 0 #[.val (.int p1), .val (.int p2), .val .null] []))
  refine own_go (fun t_ k => XS.iloadN X0.here hx rfl (hb hby d10_0) rfl k) ?_
  show WP p e below _ (s₁.setTop (mkF m 1 #[.val (.int p1), .val (.int p2), .val .null] [(.int p1)]))
  have hc1_1 : ¬ (p1 < (0 : Int32)) := c0
  refine own_go (fun t_ k => XS.ifNo X0.here hx rfl (hb hby d10_1) rfl ((if0 _ _).trans (flt hc1_1).1) k) ?_
  show WP p e below _ (s₁.setTop (mkF m 4 #[.val (.int p1), .val (.int p2), .val .null] []))
  refine own_go (fun t_ k => XS.iloadN X0.here hx rfl (hb hby d10_4) rfl k) ?_
  show WP p e below _ (s₁.setTop (mkF m 5 #[.val (.int p1), .val (.int p2), .val .null] [(.int p1)]))
  refine own_go (fun t_ k => XS.iloadN X0.here hx rfl (hb hby d10_5) rfl k) ?_
  show WP p e below _ (s₁.setTop (mkF m 6 #[.val (.int p1), .val (.int p2), .val .null] [(.int p2), (.int p1)]))
  have hc6_2 : (p1 < p2) := c1
  refine own_go (fun t_ k => XS.icmpYes X0.here hx rfl (pc0 := 6) (pc' := 16) rfl (hb hby d10_6) rfl (tlt hc6_2).1 (by decide) (by decide) k) ?_
  show WP p e below _ (s₁.setTop (mkF m 16 #[.val (.int p1), .val (.int p2), .val .null] []))
  refine own_go (fun t_ k => XS.iloadN X0.here hx rfl (hb hby d10_16) rfl k) ?_
  show WP p e below _ (s₁.setTop (mkF m 17 #[.val (.int p1), .val (.int p2), .val .null] [(.int p1)]))
  exact own_retI X0 hx Bd.notSynchronized Bd.returns (hb hby d10_17) (show PQ h0 n0 (.int p1) _ _ _ from ⟨rfl, N0, e0⟩) (by decide) (by decide)
theorem pd_1 : parseMethodDescriptor "(IILjava/util/function/BiFunction;)I" = some ⟨[.int, .int, (.object "java/util/function/BiFunction")], some .int⟩ := by decide +kernel
theorem d9_0 : decode jdk_31_method_17_code 0 = .ok (.iload_n 0, 1) := by decide +kernel
theorem d9_1 : decode jdk_31_method_17_code 1 = .ok (.iload_n 1, 1) := by decide +kernel
theorem d9_2 : decode jdk_31_method_17_code 2 = .ok (.aconst_null, 1) := by decide +kernel
theorem d9_3 : decode jdk_31_method_17_code 3 = .ok (.invokestatic 105, 3) := by decide +kernel
theorem d9_6 : decode jdk_31_method_17_code 6 = .ok (.ireturn, 1) := by decide +kernel
theorem pn_2 : plainName "java/util/Objects" = true := by first | (simp [plainName, overriddenIn]; done) | decide +kernel
theorem ef_rm_chk (m : MethodId) (x0 : Int32) (x1 : Int32) : entryFrame m #[(.int x0), (.int x1)] 2 = mkF m 0 #[.val (.int x0), .val (.int x1)] [] := by first | (simp [entryFrame, mkF, argsToLocals, Value.category]; done) | rfl
set_option maxRecDepth 65536 in
set_option maxHeartbeats 40000000 in
theorem rm_chk (l : Launch) (Z : State) (a0 : Array Value) (hw : ∀ d ∈ tables_1, d.before a0 Z = true) (ws : List Jvm.Cond) (p1 : Int32) (p2 : Int32) (h0 : Heap) (n0 : Nat) (c0 : ¬ (p1 < (0 : Int32))) (c1 : p1 < p2) :
    MetFree l (⟨"java/util/Objects", "checkIndex", "(II)I"⟩ : MethodName) (head1 (Jvm.Cond.code (⟨"java/util/Objects", "checkIndex", "(II)I"⟩ : MethodName) jdk_31_method_17_code 2 (some .int) :: ws) ({ frames := 1, cells := 0, slots := 0, locals := 14 } : Room)) (fun a U => a = #[(.int p1), (.int p2)] ∧ Z.Warmed39 U.vm ∧ U.heap = h0) (fun _ _ _ _ _ => True) (fun _ U o U' => ∃ v L, o = .returned v ∧ (PQ h0 n0 (.int p1)) v U'.heap L ∧ FrameEnd U o U' L ({ frames := 1, cells := 0, slots := 0, locals := 14 } : Room).cells ({ frames := 1, cells := 0, slots := 0, locals := 14 } : Room).slots) := by
  refine MetFree.of_bodySF (plainFor_of_name pn_2) hisR ?_
  intro p e s m args below meth c s₁ Bd hml0 hP hK
  obtain ⟨rfl, hZ, hh⟩ := hP
  have hx := Bd.exec
  have hby := Bd.bytes
  have hml : c.maxLocals = 2 := hml0
  have hown : s.vm.findClass "java/util/Objects" = some m.cls := findClass_of_methodNamed Bd.named
  have hnm := (name_of_methodNamed Bd.named Bd.method).1
  have X0 : Stand p l e ({ frames := 1, cells := 0, slots := 0, locals := 14 } : Room) s m #[(.int p1), (.int p2)] below meth c s₁ [] 0 0 := Stand.of_body Bd
  have e0 : s₁.heap = h0 := by rw [← hh, Bd.state]; rfl
  have N0 := Fr.nil n0
  show WP p e below (GG (PQ h0 n0 (.int p1)) s ({ frames := 1, cells := 0, slots := 0, locals := 14 } : Room).cells ({ frames := 1, cells := 0, slots := 0, locals := 14 } : Room).slots) (s₁.setTop (entryFrame m #[(.int p1), (.int p2)] 2))
  rw [ef_rm_chk m p1 p2]
  show WP p e below _ (s₁.setTop (mkF m 0 #[.val (.int p1), .val (.int p2)] []))
  refine own_go (fun t_ k => XS.iloadN X0.here hx rfl (hb hby d9_0) rfl k) ?_
  show WP p e below _ (s₁.setTop (mkF m 1 #[.val (.int p1), .val (.int p2)] [(.int p1)]))
  refine own_go (fun t_ k => XS.iloadN X0.here hx rfl (hb hby d9_1) rfl k) ?_
  show WP p e below _ (s₁.setTop (mkF m 2 #[.val (.int p1), .val (.int p2)] [(.int p2), (.int p1)]))
  refine own_go (fun t_ k => XS.aconstNull X0.here hx rfl (hb hby d9_2) k) ?_
  show WP p e below _ (s₁.setTop (mkF m 3 #[.val (.int p1), .val (.int p2)] [.null, (.int p2), (.int p1)]))
  obtain ⟨_, _, ⟨T1, L1, k1, n1⟩, -, X1, ⟨Lc1, hQ1, l1, y1, z1⟩, st1⟩ := Jvm.LawKit.callS X0 hx (y := (⟨"jdk/internal/util/Preconditions", "checkIndex", "(IILjava/util/function/BiFunction;)I"⟩ : MethodName)) hown (mvT hZ (hw _ (List.mem_of_getElem? (i := 44) rfl))) (mvT hZ (hw _ (List.mem_of_getElem? (i := 45) rfl))) (mvT hZ (hw _ (List.mem_of_getElem? (i := 46) rfl))) (mvT hZ (hw _ (List.mem_of_getElem? (i := 47) rfl))) (by decide) (backOf (W := 0) (rm_chk2 l Z a0 hw [] p1 p2 h0 n0 c0 c1) hZ (hw _ (List.mem_of_getElem? (i := 47) rfl)) (hw _ (List.mem_of_getElem? (i := 46) rfl)) (by decide) (by decide)) (g := (mkF m 3 #[.val (.int p1), .val (.int p2)] [.null, (.int p2), (.int p1)])) rfl (by rw [hml]; rfl) (argsL := [(.int p1), (.int p2), .null]) (rest := []) (lenOf pd_1 rfl) rfl (by show 2 * 0 + _ ≤ _; exact Nat.le_of_eq rfl) (hb hby d9_3) (fun _ _ => ⟨rfl, e0, (by decide : 0 + 0 ≤ _), (by decide : 0 + 0 ≤ _)⟩)
  dsimp only [Pt.U, Pt.locs, Pt.cells, Pt.slots] at X1 l1 y1 z1 st1 hQ1
  subst l1 y1 z1
  obtain ⟨rfl, N1q, e1⟩ := hQ1
  have N1 := Fr.app N0 N1q
  replace X1 : Stand p l e ({ frames := 1, cells := 0, slots := 0, locals := 14 } : Room) s m _ below meth c T1 _ 0 0 := X1
  refine own_go st1 ?_
  show WP p e below _ (T1.setTop (mkF m 6 #[.val (.int p1), .val (.int p2)] [(.int p1)]))
  exact own_retI X1 hx Bd.notSynchronized Bd.returns (hb hby d9_6) (show PQ h0 n0 (.int p1) _ _ _ from ⟨rfl, N1, e1⟩) (by decide) (by decide)
theorem own_at (xs : List Int64) (hl : xs.length < 1000) (i : Int32) (c0 : ¬ (i < (0 : Int32))) (c1 : i < Int32.ofNat xs.length) : (¬ i < 0 ∧ i < (1024 : Int32)) ∧ (xs.map Value.long).getD i.toNatClampNeg (.long (0 : Int64)) = .long (xs.getD i.toNatClampNeg 0) := by
  have e := (own_len _ hl).1
  have o : (1024 : Int32).toInt = 1024 := rfl
  refine ⟨⟨c0, ?_⟩, ?_⟩
  · rw [Int32.lt_iff_toInt_lt] at c1 ⊢; omega
  · rw [List.getD_eq_getElem?_getD, List.getD_eq_getElem?_getD, List.getElem?_map]
    cases xs[i.toNatClampNeg]? <;> rfl
theorem pd_2 : parseMethodDescriptor "(II)I" = some ⟨[.int, .int], some .int⟩ := by decide +kernel
theorem d8_0 : decode prog_23_method_4_code 0 = .ok (.iload_n 1, 1) := by decide +kernel
theorem d8_1 : decode prog_23_method_4_code 1 = .ok (.aload_n 0, 1) := by decide +kernel
theorem d8_2 : decode prog_23_method_4_code 2 = .ok (.getfield 18, 3) := by decide +kernel
theorem d8_5 : decode prog_23_method_4_code 5 = .ok (.invokestatic 51, 3) := by decide +kernel
theorem d8_8 : decode prog_23_method_4_code 8 = .ok (.pop, 1) := by decide +kernel
theorem d8_9 : decode prog_23_method_4_code 9 = .ok (.aload_n 0, 1) := by decide +kernel
theorem d8_10 : decode prog_23_method_4_code 10 = .ok (.getfield 14, 3) := by decide +kernel
theorem d8_13 : decode prog_23_method_4_code 13 = .ok (.iload_n 1, 1) := by decide +kernel
theorem d8_14 : decode prog_23_method_4_code 14 = .ok (.laload, 1) := by decide +kernel
theorem d8_15 : decode prog_23_method_4_code 15 = .ok (.lreturn, 1) := by decide +kernel
theorem ef_rm_get (m : MethodId) (x0 : Addr) (x1 : Int32) : entryFrame m #[(.ref x0), (.int x1)] 2 = mkF m 0 #[.val (.ref x0), .val (.int x1)] [] := by first | (simp [entryFrame, mkF, argsToLocals, Value.category]; done) | rfl
set_option maxRecDepth 65536 in
set_option maxHeartbeats 40000000 in
theorem rm_get (l : Launch) (Z : State) (a0 : Array Value) (hw : ∀ d ∈ tables_1, d.before a0 Z = true) (ws : List Jvm.Cond) (a1 : Addr) (p2 : Int32) (t : Addr) (k : ClassId) (xs : List Int64) (h0 : Heap) (n0 : Nat) (G : LG Z h0 a1 t k xs) (hl : xs.length < 1000) (c0 : ¬ (p2 < (0 : Int32))) (c1 : p2 < Int32.ofNat xs.length) :
    MetFree l (⟨"com/example/vestry/vestry/Longs", "get", "(I)J"⟩ : MethodName) (head1 (Jvm.Cond.code (⟨"com/example/vestry/vestry/Longs", "get", "(I)J"⟩ : MethodName) prog_23_method_4_code 2 (some .long) :: ws) ({ frames := 2, cells := 0, slots := 0, locals := 27 } : Room)) (fun a U => a = #[(.ref a1), (.int p2)] ∧ Z.Warmed39 U.vm ∧ U.heap = h0) (fun _ _ _ _ _ => True) (fun _ U o U' => ∃ v L, o = .returned v ∧ (PQ h0 n0 (.long (xs.getD p2.toNatClampNeg 0))) v U'.heap L ∧ FrameEnd U o U' L ({ frames := 2, cells := 0, slots := 0, locals := 27 } : Room).cells ({ frames := 2, cells := 0, slots := 0, locals := 27 } : Room).slots) := by
  refine MetFree.of_bodySF (plainFor_of_name pn_0) hisR ?_
  intro p e s m args below meth c s₁ Bd hml0 hP hK
  obtain ⟨rfl, hZ, hh⟩ := hP
  have hx := Bd.exec
  have hby := Bd.bytes
  have hml : c.maxLocals = 2 := hml0
  have hown : s.vm.findClass "com/example/vestry/vestry/Longs" = some m.cls := findClass_of_methodNamed Bd.named
  have hnm := (name_of_methodNamed Bd.named Bd.method).1
  have X0 : Stand p l e ({ frames := 2, cells := 0, slots := 0, locals := 27 } : Room) s m #[(.ref a1), (.int p2)] below meth c s₁ [] 0 0 := Stand.of_body Bd
  have e0 : s₁.heap = h0 := by rw [← hh, Bd.state]; rfl
  have N0 := Fr.nil n0
  show WP p e below (GG (PQ h0 n0 (.long (xs.getD p2.toNatClampNeg 0))) s ({ frames := 2, cells := 0, slots := 0, locals := 27 } : Room).cells ({ frames := 2, cells := 0, slots := 0, locals := 27 } : Room).slots) (s₁.setTop (entryFrame m #[(.ref a1), (.int p2)] 2))
  rw [ef_rm_get m a1 p2]
  obtain ⟨E_a, F_v, F_s, V_t, ne_t⟩ := G
  show WP p e below _ (s₁.setTop (mkF m 0 #[.val (.ref a1), .val (.int p2)] []))
  refine own_go (fun t_ k => XS.iloadN X0.here hx rfl (hb hby d8_0) rfl k) ?_
  show WP p e below _ (s₁.setTop (mkF m 1 #[.val (.ref a1), .val (.int p2)] [(.int p2)]))
  refine own_go (fun t_ k => XS.aloadN X0.here hx rfl (hb hby d8_1) rfl rfl k) ?_
  show WP p e below _ (s₁.setTop (mkF m 2 #[.val (.ref a1), .val (.int p2)] [(.ref a1), (.int p2)]))
  obtain ⟨T1, X1, e1, st1⟩ := getF X0 hx hZ hown (host := "") (Or.inl (hw _ (List.mem_of_getElem? (i := 22) rfl))) Via.refl e0 F_s (g := (mkF m 2 #[.val (.ref a1), .val (.int p2)] [(.ref a1), (.int p2)])) rfl rfl (hb hby d8_2)
  refine own_go st1 ?_
  show WP p e below _ (T1.setTop (mkF m 5 #[.val (.ref a1), .val (.int p2)] [(.int (Int32.ofNat xs.length)), (.int p2)]))
  obtain ⟨_, _, ⟨T2, L2, k2, n2⟩, -, X2, ⟨Lc2, hQ2, l2, y2, z2⟩, st2⟩ := Jvm.LawKit.callS X1 hx (y := (⟨"java/util/Objects", "checkIndex", "(II)I"⟩ : MethodName)) hown (mvT hZ (hw _ (List.mem_of_getElem? (i := 40) rfl))) (mvT hZ (hw _ (List.mem_of_getElem? (i := 41) rfl))) (mvT hZ (hw _ (List.mem_of_getElem? (i := 42) rfl))) (mvT hZ (hw _ (List.mem_of_getElem? (i := 43) rfl))) (by decide) (backOf (W := 0) (rm_chk l Z a0 hw [] p2 (Int32.ofNat xs.length) h0 n0 c0 c1) hZ (hw _ (List.mem_of_getElem? (i := 43) rfl)) (hw _ (List.mem_of_getElem? (i := 42) rfl)) (by decide) (by decide)) (g := (mkF m 5 #[.val (.ref a1), .val (.int p2)] [(.int (Int32.ofNat xs.length)), (.int p2)])) rfl (by rw [hml]; rfl) (argsL := [(.int p2), (.int (Int32.ofNat xs.length))]) (rest := []) (lenOf pd_2 rfl) rfl (by show 2 * 0 + _ ≤ _; exact Nat.le_of_eq rfl) (hb hby d8_5) (fun _ _ => ⟨rfl, e1, (by decide : 0 + 0 ≤ _), (by decide : 0 + 0 ≤ _)⟩)
  dsimp only [Pt.U, Pt.locs, Pt.cells, Pt.slots] at X2 l2 y2 z2 st2 hQ2
  subst l2 y2 z2
  obtain ⟨rfl, N2q, e2⟩ := hQ2
  have N2 := Fr.app N0 N2q
  replace X2 : Stand p l e ({ frames := 2, cells := 0, slots := 0, locals := 27 } : Room) s m _ below meth c T2 _ 0 0 := X2
  refine own_go st2 ?_
  show WP p e below _ (T2.setTop (mkF m 8 #[.val (.ref a1), .val (.int p2)] [(.int p2)]))
  refine own_go (fun t_ k => XS.pop X2.here hx rfl (hb hby d8_8) rfl rfl k) ?_
  show WP p e below _ (T2.setTop (mkF m 9 #[.val (.ref a1), .val (.int p2)] []))
  refine own_go (fun t_ k => XS.aloadN X2.here hx rfl (hb hby d8_9) rfl rfl k) ?_
  show WP p e below _ (T2.setTop (mkF m 10 #[.val (.ref a1), .val (.int p2)] [(.ref a1)]))
  obtain ⟨T3, X3, e3, st3⟩ := getF X2 hx hZ hown (host := "") (Or.inl (hw _ (List.mem_of_getElem? (i := 20) rfl))) Via.refl e2 F_v (g := (mkF m 10 #[.val (.ref a1), .val (.int p2)] [(.ref a1)])) rfl rfl (hb hby d8_10)
  refine own_go st3 ?_
  show WP p e below _ (T3.setTop (mkF m 13 #[.val (.ref a1), .val (.int p2)] [(.ref t)]))
  refine own_go (fun t_ k => XS.iloadN X3.here hx rfl (hb hby d8_13) rfl k) ?_
  show WP p e below _ (T3.setTop (mkF m 14 #[.val (.ref a1), .val (.int p2)] [(.int p2), (.ref t)]))
  obtain ⟨cl4, Ar4, -, S4, M4, H4, -⟩ := id (V_t)
  have hin4 : ¬ (p2 < 0 ∨ cl4.slots.size ≤ (p2).toNatClampNeg) := inb_of S4 ((own_at xs hl p2 c0 c1).1)
  refine own_go (fun t_ k => X3.laload hx (j := p2) (v := (.long (xs.getD p2.toNatClampNeg 0))) (by rw [e3]; exact Ar4.1) (State.isArrayOf_alike hZ.alike Ar4.2.1) Ar4.2.2 hin4 (H4.at hin4 (own_at xs hl p2 c0 c1).2) (g := (mkF m 14 #[.val (.ref a1), .val (.int p2)] [(.int p2), (.ref t)])) rfl rfl (hb hby d8_14) _ k) ?_
  show WP p e below _ (T3.setTop (mkF m 15 #[.val (.ref a1), .val (.int p2)] [(.long (xs.getD p2.toNatClampNeg 0))]))
  exact own_retJ X3 hx Bd.notSynchronized Bd.returns (hb hby d8_15) (show PQ h0 n0 (.long (xs.getD p2.toNatClampNeg 0)) _ _ _ from ⟨rfl, N2, e3⟩) (by decide) (by decide)
def rs (xs : List Int64) (i : Int32) : Int32 := Int32.ofNat ((xs.take i.toNatClampNeg).countP (fun z => decide (z < xs.getD i.toNatClampNeg 0)))
theorem own_mid {lo hi m : Int32} (he : ((lo + hi).toUInt32 >>> ((1 : Int32) &&& 31).toUInt32).toInt32 = m) (h0 : 0 ≤ lo.toInt) (h1 : lo.toInt < hi.toInt) (h2 : hi.toInt < 1000) : lo.toInt ≤ m.toInt ∧ m.toInt < hi.toInt := by
  have a1 := c_iadd lo hi
  have a2 := c_iushr (lo + hi) 1 1 (by decide) (by decide)
  have r := rng32 (lo + hi)
  rw [he] at a2
  omega
theorem own_nat {i : Int32} (h : 0 ≤ i.toInt) : (i.toNatClampNeg : Int) = i.toInt := by simp only [Int32.toNatClampNeg]; omega
theorem own_goL {xs : List Int64} {v : Int64} {lo hi m i : Int32} {k : Nat} (hs : ∀ a b : Nat, a ≤ b → b ≤ i.toNatClampNeg → ¬ (xs.getD b 0 < xs.getD a 0)) (hi0 : 0 ≤ i.toInt) (a : hi.toInt - lo.toInt ≤ ((k + 1 : Nat) : Int)) (b : 0 ≤ lo.toInt ∧ lo.toInt ≤ hi.toInt ∧ hi.toInt ≤ i.toInt) (hm : lo.toInt ≤ m.toInt ∧ m.toInt < hi.toInt) (hi1 : i.toInt < 1000) (d : xs.getD m.toNatClampNeg 0 < v) :
    hi.toInt - (m + 1).toInt ≤ (k : Int) ∧ (0 ≤ (m + 1).toInt ∧ (m + 1).toInt ≤ hi.toInt ∧ hi.toInt ≤ i.toInt) ∧ (∀ j : Nat, (j : Int) < (m + 1).toInt → xs.getD j 0 < v) := by
  have c1 := c_iadd m 1
  have o1 : (1 : Int32).toInt = 1 := rfl
  have r := rng32 (m + 1)
  have e : (m + 1).toInt = m.toInt + 1 := by omega
  refine ⟨by omega, by omega, fun j hj => ?_⟩
  have n1 := own_nat (i := m) (by omega)
  have n2 := own_nat hi0
  have q := hs j m.toNatClampNeg (by omega) (by omega)
  rw [Int64.lt_iff_toInt_lt] at q d ⊢
  omega
theorem own_goR {xs : List Int64} {v : Int64} {lo hi m i : Int32} {k : Nat} (hs : ∀ a b : Nat, a ≤ b → b ≤ i.toNatClampNeg → ¬ (xs.getD b 0 < xs.getD a 0)) (hi0 : 0 ≤ i.toInt) (a : hi.toInt - lo.toInt ≤ ((k + 1 : Nat) : Int)) (b : 0 ≤ lo.toInt ∧ lo.toInt ≤ hi.toInt ∧ hi.toInt ≤ i.toInt) (hm : lo.toInt ≤ m.toInt ∧ m.toInt < hi.toInt) (d : ¬ (xs.getD m.toNatClampNeg 0 < v)) :
    m.toInt - lo.toInt ≤ (k : Int) ∧ (0 ≤ lo.toInt ∧ lo.toInt ≤ m.toInt ∧ m.toInt ≤ i.toInt) ∧ (∀ j : Nat, m.toInt ≤ (j : Int) → j < i.toNatClampNeg → ¬ (xs.getD j 0 < v)) := by
  refine ⟨by omega, by omega, fun j hj hk => ?_⟩
  have n1 := own_nat (i := m) (by omega)
  have q := hs m.toNatClampNeg j (by omega) (by omega)
  rw [Int64.lt_iff_toInt_lt] at q d ⊢
  omega
theorem own_count (v : Int64) : ∀ (xs : List Int64) (i lo : Nat), lo ≤ i → i ≤ xs.length → (∀ j, j < lo → xs.getD j 0 < v) → (∀ j, lo ≤ j → j < i → ¬ (xs.getD j 0 < v)) → (xs.take i).countP (fun z => decide (z < v)) = lo
  | [], i, lo, h1, h2, _, _ => by
    have : i = 0 := by simpa using h2
    subst this
    have : lo = 0 := by omega
    subst this; rfl
  | x :: r, 0, lo, h1, _, _, _ => by
    have : lo = 0 := by omega
    subst this; rfl
  | x :: r, i + 1, lo, h1, h2, h3, h4 => by
    rw [List.take_succ_cons, List.countP_cons]
    by_cases q : x < v
    · obtain ⟨lo', rfl⟩ : ∃ z, lo = z + 1 := by
        cases lo with
        | zero => exact absurd q (h4 0 (Nat.le_refl _) (by omega))
        | succ z => exact ⟨z, rfl⟩
      rw [own_count v r i lo' (by omega) (by simpa using h2) (fun j hj => by have := h3 (j + 1) (by omega); simpa using this) (fun j hj hk => by have := h4 (j + 1) (by omega) (by omega); simpa using this)]
      simp [q]
    · have e0 : lo = 0 := by
        cases lo with
        | zero => rfl
        | succ z => exact absurd (by have := h3 0 (by omega); simpa using this) q
      subst e0
      rw [own_count v r i 0 (by omega) (by simpa using h2) (fun j hj => by omega) (fun j hj hk => by have := h4 (j + 1) (by omega) (by omega); simpa using this)]
      simp [q]
theorem own_rs {xs : List Int64} {i lo hi : Int32} (hl : xs.length < 1000) (hi0 : 0 ≤ i.toInt) (hi1 : i < Int32.ofNat xs.length) (b : 0 ≤ lo.toInt ∧ lo.toInt ≤ hi.toInt ∧ hi.toInt ≤ i.toInt) (hle : ¬ lo < hi) (c : ∀ j : Nat, (j : Int) < lo.toInt → xs.getD j 0 < xs.getD i.toNatClampNeg 0) (d : ∀ j : Nat, hi.toInt ≤ (j : Int) → j < i.toNatClampNeg → ¬ (xs.getD j 0 < xs.getD i.toNatClampNeg 0)) : lo = rs xs i := by
  have n1 := own_nat hi0
  have n2 := own_nat b.1
  have e := (own_len _ hl).1
  rw [Int32.lt_iff_toInt_lt] at hle hi1
  have q := own_count (xs.getD i.toNatClampNeg 0) xs i.toNatClampNeg lo.toNatClampNeg (by omega) (by omega) (fun j hj => c j (by omega)) (fun j hj hk => d j (by omega) hk)
  unfold rs
  rw [q]
  exact Int32.toInt_inj.mp (by rw [(own_len _ (by omega)).1]; omega)
theorem own_i1000 {xs : List Int64} {i : Int32} (hl : xs.length < 1000) (c1 : i < Int32.ofNat xs.length) : i.toInt < 1000 := by
  have e := (own_len _ hl).1
  rw [Int32.lt_iff_toInt_lt] at c1
  omega
theorem own_nn {i : Int32} (h : ¬ (i < (0 : Int32))) : 0 ≤ i.toInt := by
  have o : (0 : Int32).toInt = 0 := rfl
  rw [Int32.lt_iff_toInt_lt] at h; omega
theorem pd_3 : parseMethodDescriptor "(I)J" = some ⟨[.int], some .long⟩ := by decide +kernel
theorem d7_0 : decode prog_23_method_6_code 0 = .ok (.aload_n 0, 1) := by decide +kernel
theorem d7_1 : decode prog_23_method_6_code 1 = .ok (.iload_n 1, 1) := by decide +kernel
theorem d7_2 : decode prog_23_method_6_code 2 = .ok (.invokevirtual 57, 3) := by decide +kernel
theorem d7_5 : decode prog_23_method_6_code 5 = .ok (.lstore_n 2, 1) := by decide +kernel
theorem d7_6 : decode prog_23_method_6_code 6 = .ok (.iconst 0, 1) := by decide +kernel
theorem d7_7 : decode prog_23_method_6_code 7 = .ok (.istore 4, 2) := by decide +kernel
theorem d7_9 : decode prog_23_method_6_code 9 = .ok (.iload_n 1, 1) := by decide +kernel
theorem d7_10 : decode prog_23_method_6_code 10 = .ok (.istore 5, 2) := by decide +kernel
theorem d7_12 : decode prog_23_method_6_code 12 = .ok (.iload 4, 2) := by decide +kernel
theorem d7_14 : decode prog_23_method_6_code 14 = .ok (.iload 5, 2) := by decide +kernel
theorem d7_16 : decode prog_23_method_6_code 16 = .ok (.if_icmp .ge 40, 3) := by decide +kernel
theorem d7_19 : decode prog_23_method_6_code 19 = .ok (.iload 4, 2) := by decide +kernel
theorem d7_21 : decode prog_23_method_6_code 21 = .ok (.iload 5, 2) := by decide +kernel
theorem d7_23 : decode prog_23_method_6_code 23 = .ok (.iadd, 1) := by decide +kernel
theorem d7_24 : decode prog_23_method_6_code 24 = .ok (.iconst 1, 1) := by decide +kernel
theorem d7_25 : decode prog_23_method_6_code 25 = .ok (.iushr, 1) := by decide +kernel
theorem d7_26 : decode prog_23_method_6_code 26 = .ok (.istore 6, 2) := by decide +kernel
theorem d7_28 : decode prog_23_method_6_code 28 = .ok (.aload_n 0, 1) := by decide +kernel
theorem d7_29 : decode prog_23_method_6_code 29 = .ok (.getfield 14, 3) := by decide +kernel
theorem d7_32 : decode prog_23_method_6_code 32 = .ok (.iload 6, 2) := by decide +kernel
theorem d7_34 : decode prog_23_method_6_code 34 = .ok (.laload, 1) := by decide +kernel
theorem d7_35 : decode prog_23_method_6_code 35 = .ok (.lload_n 2, 1) := by decide +kernel
theorem d7_36 : decode prog_23_method_6_code 36 = .ok (.lcmp, 1) := by decide +kernel
theorem d7_37 : decode prog_23_method_6_code 37 = .ok (.ifCond .ge 12, 3) := by decide +kernel
theorem d7_40 : decode prog_23_method_6_code 40 = .ok (.iload 6, 2) := by decide +kernel
theorem d7_42 : decode prog_23_method_6_code 42 = .ok (.iconst 1, 1) := by decide +kernel
theorem d7_43 : decode prog_23_method_6_code 43 = .ok (.iadd, 1) := by decide +kernel
theorem d7_44 : decode prog_23_method_6_code 44 = .ok (.istore 4, 2) := by decide +kernel
theorem d7_46 : decode prog_23_method_6_code 46 = .ok (.goto 7, 3) := by decide +kernel
theorem d7_49 : decode prog_23_method_6_code 49 = .ok (.iload 6, 2) := by decide +kernel
theorem d7_51 : decode prog_23_method_6_code 51 = .ok (.istore 5, 2) := by decide +kernel
theorem d7_53 : decode prog_23_method_6_code 53 = .ok (.goto (-41), 3) := by decide +kernel
theorem d7_56 : decode prog_23_method_6_code 56 = .ok (.iload 4, 2) := by decide +kernel
theorem d7_58 : decode prog_23_method_6_code 58 = .ok (.ireturn, 1) := by decide +kernel
theorem ef_rm_rs (m : MethodId) (x0 : Addr) (x1 : Int32) : entryFrame m #[(.ref x0), (.int x1)] 7 = mkF m 0 #[.val (.ref x0), .val (.int x1), .unset, .unset, .unset, .unset, .unset] [] := by first | (simp [entryFrame, mkF, argsToLocals, Value.category]; done) | rfl
set_option maxRecDepth 65536 in
set_option maxHeartbeats 40000000 in
theorem rm_rs (l : Launch) (Z : State) (a0 : Array Value) (hw : ∀ d ∈ tables_1, d.before a0 Z = true) (ws : List Jvm.Cond) (a1 : Addr) (p2 : Int32) (t : Addr) (k : ClassId) (xs : List Int64) (h0 : Heap) (n0 : Nat) (G : LG Z h0 a1 t k xs) (hl : xs.length < 1000) (c0 : ¬ (p2 < (0 : Int32))) (c1 : p2 < Int32.ofNat xs.length) (hs : ∀ a b : Nat, a ≤ b → b ≤ p2.toNatClampNeg → ¬ (xs.getD b 0 < xs.getD a 0)) :
    MetFree l (⟨"com/example/vestry/vestry/Longs", "runStart", "(I)I"⟩ : MethodName) (head1 (Jvm.Cond.code (⟨"com/example/vestry/vestry/Longs", "runStart", "(I)I"⟩ : MethodName) prog_23_method_6_code 7 (some .int) :: ws) ({ frames := 3, cells := 0, slots := 0, locals := 40 } : Room)) (fun a U => a = #[(.ref a1), (.int p2)] ∧ Z.Warmed39 U.vm ∧ U.heap = h0) (fun _ _ _ _ _ => True) (fun _ U o U' => ∃ v L, o = .returned v ∧ (PQ h0 n0 (.int (rs xs p2))) v U'.heap L ∧ FrameEnd U o U' L ({ frames := 3, cells := 0, slots := 0, locals := 40 } : Room).cells ({ frames := 3, cells := 0, slots := 0, locals := 40 } : Room).slots) := by
  refine MetFree.of_bodySF (plainFor_of_name pn_0) hisR ?_
  intro p e s m args below meth c s₁ Bd hml0 hP hK
  obtain ⟨rfl, hZ, hh⟩ := hP
  have hx := Bd.exec
  have hby := Bd.bytes
  have hml : c.maxLocals = 7 := hml0
  have hown : s.vm.findClass "com/example/vestry/vestry/Longs" = some m.cls := findClass_of_methodNamed Bd.named
  have hnm := (name_of_methodNamed Bd.named Bd.method).1
  have X0 : Stand p l e ({ frames := 3, cells := 0, slots := 0, locals := 40 } : Room) s m #[(.ref a1), (.int p2)] below meth c s₁ [] 0 0 := Stand.of_body Bd
  have e0 : s₁.heap = h0 := by rw [← hh, Bd.state]; rfl
  have N0 := Fr.nil n0
  show WP p e below (GG (PQ h0 n0 (.int (rs xs p2))) s ({ frames := 3, cells := 0, slots := 0, locals := 40 } : Room).cells ({ frames := 3, cells := 0, slots := 0, locals := 40 } : Room).slots) (s₁.setTop (entryFrame m #[(.ref a1), (.int p2)] 7))
  rw [ef_rm_rs m a1 p2]
  have G' := G
  obtain ⟨E_a, F_v, F_s, V_t, ne_t⟩ := G'
  have hi0 := own_nn c0
  have hi1 := own_i1000 hl c1
  show WP p e below _ (s₁.setTop (mkF m 0 #[.val (.ref a1), .val (.int p2), .unset, .unset, .unset, .unset, .unset] []))
  refine own_go (fun t_ k => XS.aloadN X0.here hx rfl (hb hby d7_0) rfl rfl k) ?_
  show WP p e below _ (s₁.setTop (mkF m 1 #[.val (.ref a1), .val (.int p2), .unset, .unset, .unset, .unset, .unset] [(.ref a1)]))
  refine own_go (fun t_ k => XS.iloadN X0.here hx rfl (hb hby d7_1) rfl k) ?_
  show WP p e below _ (s₁.setTop (mkF m 2 #[.val (.ref a1), .val (.int p2), .unset, .unset, .unset, .unset, .unset] [(.int p2), (.ref a1)]))
  obtain ⟨cq1, kq1, q1a, q1b, q1c⟩ := isOf (T := s₁) hZ e0 E_a
  obtain ⟨_, _, ⟨T1, L1, k1, n1⟩, -, X1, ⟨Lc1, hQ1, l1, y1, z1⟩, st1⟩ := X0.virtualBack hx (y := (⟨"com/example/vestry/vestry/Longs", "get", "(I)J"⟩ : MethodName)) (z := (⟨"com/example/vestry/vestry/Longs", "get", "(I)J"⟩ : MethodName)) hown (mvT hZ (hw _ (List.mem_of_getElem? (i := 35) rfl))) (mvT hZ (hw _ (List.mem_of_getElem? (i := 36) rfl))) (notFace_of_selects (args := #[]) (mvT hZ (hw _ (List.mem_of_getElem? (i := 38) rfl)))) (mvT hZ (hw _ (List.mem_of_getElem? (i := 38) rfl))) (mvT hZ (hw _ (List.mem_of_getElem? (i := 37) rfl))) (by decide) (backOf (W := 0) (rm_get l Z a0 hw [] a1 p2 t k xs h0 n0 G hl c0 c1) hZ (hw _ (List.mem_of_getElem? (i := 39) rfl)) (hw _ (List.mem_of_getElem? (i := 9) rfl)) (by decide) (by decide)) q1a q1c (g := (mkF m 2 #[.val (.ref a1), .val (.int p2), .unset, .unset, .unset, .unset, .unset] [(.int p2), (.ref a1)])) rfl (by rw [hml]; rfl) (Steps.refl _) (argsL := [(.int p2)]) (rest := []) (lenOf pd_3 rfl) rfl (by show 2 * 0 + _ ≤ _; exact Nat.le_of_eq rfl) (hb hby d7_2) (fun _ _ => ⟨rfl, e0, (by decide : 0 + 0 ≤ _), (by decide : 0 + 0 ≤ _)⟩)
  dsimp only [Pt.U, Pt.locs, Pt.cells, Pt.slots] at X1 l1 y1 z1 st1 hQ1
  subst l1 y1 z1
  obtain ⟨rfl, N1q, e1⟩ := hQ1
  have N1 := Fr.app N0 N1q
  replace X1 : Stand p l e ({ frames := 3, cells := 0, slots := 0, locals := 40 } : Room) s m _ below meth c T1 _ 0 0 := X1
  refine own_go (fun t_ k => st1.trans k) ?_
  show WP p e below _ (T1.setTop (mkF m 5 #[.val (.ref a1), .val (.int p2), .unset, .unset, .unset, .unset, .unset] [(.long (List.getD xs p2.toNatClampNeg 0))]))
  generalize he2 : (List.getD xs p2.toNatClampNeg 0) = vj2
  show WP p e below _ (T1.setTop (mkF m 5 #[.val (.ref a1), .val (.int p2), .unset, .unset, .unset, .unset, .unset] [(.long vj2)]))
  refine own_go (fun t_ k => XS.lstoreN X1.here hx rfl (hb hby d7_5) rfl (l' := #[.val (.ref a1), .val (.int p2), .val (.long vj2), .second, .unset, .unset, .unset]) rfl k) ?_
  show WP p e below _ (T1.setTop (mkF m 6 #[.val (.ref a1), .val (.int p2), .val (.long vj2), .second, .unset, .unset, .unset] []))
  refine own_go (fun t_ k => XS.iconst X1.here hx rfl (hb hby d7_6) k) ?_
  show WP p e below _ (T1.setTop (mkF m 7 #[.val (.ref a1), .val (.int p2), .val (.long vj2), .second, .unset, .unset, .unset] [(.int (0 : Int32))]))
  refine own_go (fun t_ k => XS.istore X1.here hx rfl (hb hby d7_7) rfl (l' := #[.val (.ref a1), .val (.int p2), .val (.long vj2), .second, .val (.int (0 : Int32)), .unset, .unset]) rfl k) ?_
  show WP p e below _ (T1.setTop (mkF m 9 #[.val (.ref a1), .val (.int p2), .val (.long vj2), .second, .val (.int (0 : Int32)), .unset, .unset] []))
  refine own_go (fun t_ k => XS.iloadN X1.here hx rfl (hb hby d7_9) rfl k) ?_
  show WP p e below _ (T1.setTop (mkF m 10 #[.val (.ref a1), .val (.int p2), .val (.long vj2), .second, .val (.int (0 : Int32)), .unset, .unset] [(.int p2)]))
  refine own_go (fun t_ k => XS.istore X1.here hx rfl (hb hby d7_10) rfl (l' := #[.val (.ref a1), .val (.int p2), .val (.long vj2), .second, .val (.int (0 : Int32)), .val (.int p2), .unset]) rfl k) ?_
  have Lp3 : ∀ (k3 : Nat) (T3 : State) (ls3 : List Loc) (X3 : Stand p l e ({ frames := 3, cells := 0, slots := 0, locals := 40 } : Room) s m #[(.ref a1), (.int p2)] below meth c T3 ls3 0 0) (N3 : Fr n0 ls3) (e3 : T3.heap = h0) (s3_6 : Slot) (hs3_6 : s3_6 = .unset ∨ ∃ w, s3_6 = .val w ∧ w.category = 1) (lo3 : Int32) (hi3 : Int32) (iva3 : hi3.toInt - lo3.toInt ≤ (k3 : Int)) (ivb3 : 0 ≤ lo3.toInt ∧ lo3.toInt ≤ hi3.toInt ∧ hi3.toInt ≤ p2.toInt) (ivc3 : ∀ j : Nat, (j : Int) < lo3.toInt → xs.getD j 0 < vj2) (ivd3 : ∀ j : Nat, hi3.toInt ≤ (j : Int) → j < p2.toNatClampNeg → ¬ (xs.getD j 0 < vj2)), WP p e below (GG (PQ h0 n0 (.int (rs xs p2))) s ({ frames := 3, cells := 0, slots := 0, locals := 40 } : Room).cells ({ frames := 3, cells := 0, slots := 0, locals := 40 } : Room).slots) (T3.setTop (mkF m 12 #[.val (.ref a1), .val (.int p2), .val (.long vj2), .second, .val (.int lo3), .val (.int hi3), s3_6] [])) := by
    intro k3
    induction k3 with
    | zero =>
      intro T3 ls3 X3 N3 e3 s3_6 hs3_6 lo3 hi3 iva3 ivb3 ivc3 ivd3
      show WP p e below _ (T3.setTop (mkF m 12 #[.val (.ref a1), .val (.int p2), .val (.long vj2), .second, .val (.int lo3), .val (.int hi3), s3_6] []))
      refine own_go (fun t_ k => XS.iload X3.here hx rfl (hb hby d7_12) rfl k) ?_
      show WP p e below _ (T3.setTop (mkF m 14 #[.val (.ref a1), .val (.int p2), .val (.long vj2), .second, .val (.int lo3), .val (.int hi3), s3_6] [(.int lo3)]))
      refine own_go (fun t_ k => XS.iload X3.here hx rfl (hb hby d7_14) rfl k) ?_
      show WP p e below _ (T3.setTop (mkF m 16 #[.val (.ref a1), .val (.int p2), .val (.long vj2), .second, .val (.int lo3), .val (.int hi3), s3_6] [(.int hi3), (.int lo3)]))
      have hc16_4 : ¬ (lo3 < hi3) := by have := iva3; have := ivb3; rw [Int32.lt_iff_toInt_lt]; omega
      refine own_go (fun t_ k => XS.icmpYes X3.here hx rfl (pc0 := 16) (pc' := 56) rfl (hb hby d7_16) rfl (flt hc16_4).2.1 (by decide) (by decide) k) ?_
      show WP p e below _ (T3.setTop (mkF m 56 #[.val (.ref a1), .val (.int p2), .val (.long vj2), .second, .val (.int lo3), .val (.int hi3), s3_6] []))
      refine own_go (fun t_ k => XS.iload X3.here hx rfl (hb hby d7_56) rfl k) ?_
      show WP p e below _ (T3.setTop (mkF m 58 #[.val (.ref a1), .val (.int p2), .val (.long vj2), .second, .val (.int lo3), .val (.int hi3), s3_6] [(.int lo3)]))
      exact own_retI X3 hx Bd.notSynchronized Bd.returns (hb hby d7_58) (show PQ h0 n0 (.int (rs xs p2)) _ _ _ from ⟨by rw [own_rs (lo := lo3) (hi := hi3) hl hi0 c1 ivb3 hc16_4 (by rw [he2]; exact ivc3) (by rw [he2]; exact ivd3)], N3, e3⟩) (by decide) (by decide)
    | succ k3 ih3 =>
      intro T3 ls3 X3 N3 e3 s3_6 hs3_6 lo3 hi3 iva3 ivb3 ivc3 ivd3
      show WP p e below _ (T3.setTop (mkF m 12 #[.val (.ref a1), .val (.int p2), .val (.long vj2), .second, .val (.int lo3), .val (.int hi3), s3_6] []))
      refine own_go (fun t_ k => XS.iload X3.here hx rfl (hb hby d7_12) rfl k) ?_
      show WP p e below _ (T3.setTop (mkF m 14 #[.val (.ref a1), .val (.int p2), .val (.long vj2), .second, .val (.int lo3), .val (.int hi3), s3_6] [(.int lo3)]))
      refine own_go (fun t_ k => XS.iload X3.here hx rfl (hb hby d7_14) rfl k) ?_
      show WP p e below _ (T3.setTop (mkF m 16 #[.val (.ref a1), .val (.int p2), .val (.long vj2), .second, .val (.int lo3), .val (.int hi3), s3_6] [(.int hi3), (.int lo3)]))
      by_cases hc16_5 : lo3 < hi3
      · refine own_go (fun t_ k => XS.icmpNo X3.here hx rfl (hb hby d7_16) rfl (tlt hc16_5).2.1 k) ?_
        show WP p e below _ (T3.setTop (mkF m 19 #[.val (.ref a1), .val (.int p2), .val (.long vj2), .second, .val (.int lo3), .val (.int hi3), s3_6] []))
        refine own_go (fun t_ k => XS.iload X3.here hx rfl (hb hby d7_19) rfl k) ?_
        show WP p e below _ (T3.setTop (mkF m 21 #[.val (.ref a1), .val (.int p2), .val (.long vj2), .second, .val (.int lo3), .val (.int hi3), s3_6] [(.int lo3)]))
        refine own_go (fun t_ k => XS.iload X3.here hx rfl (hb hby d7_21) rfl k) ?_
        show WP p e below _ (T3.setTop (mkF m 23 #[.val (.ref a1), .val (.int p2), .val (.long vj2), .second, .val (.int lo3), .val (.int hi3), s3_6] [(.int hi3), (.int lo3)]))
        refine own_go (fun t_ k => XS.iadd X3.here hx rfl (hb hby d7_23) rfl k) ?_
        show WP p e below _ (T3.setTop (mkF m 24 #[.val (.ref a1), .val (.int p2), .val (.long vj2), .second, .val (.int lo3), .val (.int hi3), s3_6] [(.int (lo3 + hi3))]))
        refine own_go (fun t_ k => XS.iconst X3.here hx rfl (hb hby d7_24) k) ?_
        show WP p e below _ (T3.setTop (mkF m 25 #[.val (.ref a1), .val (.int p2), .val (.long vj2), .second, .val (.int lo3), .val (.int hi3), s3_6] [(.int (1 : Int32)), (.int (lo3 + hi3))]))
        refine own_go (fun t_ k => XS.iushr X3.here hx rfl (hb hby d7_25) rfl k) ?_
        show WP p e below _ (T3.setTop (mkF m 26 #[.val (.ref a1), .val (.int p2), .val (.long vj2), .second, .val (.int lo3), .val (.int hi3), s3_6] [(.int (((lo3 + hi3).toUInt32 >>> ((1 : Int32) &&& 31).toUInt32).toInt32))]))
        refine own_go (fun t_ k => XS.istore X3.here hx rfl (hb hby d7_26) rfl (l' := #[.val (.ref a1), .val (.int p2), .val (.long vj2), .second, .val (.int lo3), .val (.int hi3), .val (.int (((lo3 + hi3).toUInt32 >>> ((1 : Int32) &&& 31).toUInt32).toInt32))]) (by first | rfl | exact XS.store1 rfl hs3_6 rfl) k) ?_
        show WP p e below _ (T3.setTop (mkF m 28 #[.val (.ref a1), .val (.int p2), .val (.long vj2), .second, .val (.int lo3), .val (.int hi3), .val (.int (((lo3 + hi3).toUInt32 >>> ((1 : Int32) &&& 31).toUInt32).toInt32))] []))
        generalize he6 : (((lo3 + hi3).toUInt32 >>> ((1 : Int32) &&& 31).toUInt32).toInt32) = vi6
        show WP p e below _ (T3.setTop (mkF m 28 #[.val (.ref a1), .val (.int p2), .val (.long vj2), .second, .val (.int lo3), .val (.int hi3), .val (.int vi6)] []))
        refine own_go (fun t_ k => XS.aloadN X3.here hx rfl (hb hby d7_28) rfl rfl k) ?_
        show WP p e below _ (T3.setTop (mkF m 29 #[.val (.ref a1), .val (.int p2), .val (.long vj2), .second, .val (.int lo3), .val (.int hi3), .val (.int vi6)] [(.ref a1)]))
        obtain ⟨T7, X7, e7, st7⟩ := getF X3 hx hZ hown (host := "") (Or.inl (hw _ (List.mem_of_getElem? (i := 20) rfl))) Via.refl e3 F_v (g := (mkF m 29 #[.val (.ref a1), .val (.int p2), .val (.long vj2), .second, .val (.int lo3), .val (.int hi3), .val (.int vi6)] [(.ref a1)])) rfl rfl (hb hby d7_29)
        refine own_go st7 ?_
        show WP p e below _ (T7.setTop (mkF m 32 #[.val (.ref a1), .val (.int p2), .val (.long vj2), .second, .val (.int lo3), .val (.int hi3), .val (.int vi6)] [(.ref t)]))
        refine own_go (fun t_ k => XS.iload X7.here hx rfl (hb hby d7_32) rfl k) ?_
        show WP p e below _ (T7.setTop (mkF m 34 #[.val (.ref a1), .val (.int p2), .val (.long vj2), .second, .val (.int lo3), .val (.int hi3), .val (.int vi6)] [(.int vi6), (.ref t)]))
        have hm3 := own_mid he6 ivb3.1 (Int32.lt_iff_toInt_lt.mp hc16_5) (by have := ivb3; omega)
        have hat3 := own_at xs hl vi6 (by have o : (0 : Int32).toInt = 0 := rfl; have := ivb3; rw [Int32.lt_iff_toInt_lt]; omega) (by have := Int32.lt_iff_toInt_lt.mp c1; have := ivb3; rw [Int32.lt_iff_toInt_lt]; omega)
        obtain ⟨cl8, Ar8, -, S8, M8, H8, -⟩ := id (V_t)
        have hin8 : ¬ (vi6 < 0 ∨ cl8.slots.size ≤ (vi6).toNatClampNeg) := inb_of S8 (hat3.1)
        refine own_go (fun t_ k => X7.laload hx (j := vi6) (v := (.long (List.getD xs vi6.toNatClampNeg 0))) (by rw [e7]; exact Ar8.1) (State.isArrayOf_alike hZ.alike Ar8.2.1) Ar8.2.2 hin8 (H8.at hin8 hat3.2) (g := (mkF m 34 #[.val (.ref a1), .val (.int p2), .val (.long vj2), .second, .val (.int lo3), .val (.int hi3), .val (.int vi6)] [(.int vi6), (.ref t)])) rfl rfl (hb hby d7_34) _ k) ?_
        show WP p e below _ (T7.setTop (mkF m 35 #[.val (.ref a1), .val (.int p2), .val (.long vj2), .second, .val (.int lo3), .val (.int hi3), .val (.int vi6)] [(.long (List.getD xs vi6.toNatClampNeg 0))]))
        refine own_go (fun t_ k => XS.lloadN X7.here hx rfl (hb hby d7_35) rfl k) ?_
        show WP p e below _ (T7.setTop (mkF m 36 #[.val (.ref a1), .val (.int p2), .val (.long vj2), .second, .val (.int lo3), .val (.int hi3), .val (.int vi6)] [(.long vj2), (.long (List.getD xs vi6.toNatClampNeg 0))]))
        refine own_go (fun t_ k => XS.lcmp X7.here hx rfl (hb hby d7_36) rfl k) ?_
        show WP p e below _ (T7.setTop (mkF m 37 #[.val (.ref a1), .val (.int p2), .val (.long vj2), .second, .val (.int lo3), .val (.int hi3), .val (.int vi6)] [(.int (lcmpW (List.getD xs vi6.toNatClampNeg 0) vj2))]))
        by_cases hc37_9 : (List.getD xs vi6.toNatClampNeg 0) < vj2
        · refine own_go (fun t_ k => XS.ifNo X7.here hx rfl (hb hby d7_37) rfl ((if0 _ _).trans (tlt ((lw_lt _ _).mpr hc37_9)).2.1) k) ?_
          show WP p e below _ (T7.setTop (mkF m 40 #[.val (.ref a1), .val (.int p2), .val (.long vj2), .second, .val (.int lo3), .val (.int hi3), .val (.int vi6)] []))
          refine own_go (fun t_ k => XS.iload X7.here hx rfl (hb hby d7_40) rfl k) ?_
          show WP p e below _ (T7.setTop (mkF m 42 #[.val (.ref a1), .val (.int p2), .val (.long vj2), .second, .val (.int lo3), .val (.int hi3), .val (.int vi6)] [(.int vi6)]))
          refine own_go (fun t_ k => XS.iconst X7.here hx rfl (hb hby d7_42) k) ?_
          show WP p e below _ (T7.setTop (mkF m 43 #[.val (.ref a1), .val (.int p2), .val (.long vj2), .second, .val (.int lo3), .val (.int hi3), .val (.int vi6)] [(.int (1 : Int32)), (.int vi6)]))
          refine own_go (fun t_ k => XS.iadd X7.here hx rfl (hb hby d7_43) rfl k) ?_
          show WP p e below _ (T7.setTop (mkF m 44 #[.val (.ref a1), .val (.int p2), .val (.long vj2), .second, .val (.int lo3), .val (.int hi3), .val (.int vi6)] [(.int (vi6 + (1 : Int32)))]))
          refine own_go (fun t_ k => XS.istore X7.here hx rfl (hb hby d7_44) rfl (l' := #[.val (.ref a1), .val (.int p2), .val (.long vj2), .second, .val (.int (vi6 + (1 : Int32))), .val (.int hi3), .val (.int vi6)]) rfl k) ?_
          show WP p e below _ (T7.setTop (mkF m 46 #[.val (.ref a1), .val (.int p2), .val (.long vj2), .second, .val (.int (vi6 + (1 : Int32))), .val (.int hi3), .val (.int vi6)] []))
          generalize he10 : (vi6 + (1 : Int32)) = vi10
          show WP p e below _ (T7.setTop (mkF m 46 #[.val (.ref a1), .val (.int p2), .val (.long vj2), .second, .val (.int vi10), .val (.int hi3), .val (.int vi6)] []))
          refine own_go (fun t_ k => XS.goto X7.here hx rfl (pc0 := 46) (pc' := 53) rfl (hb hby d7_46) (by decide) (by decide) k) ?_
          show WP p e below _ (T7.setTop (mkF m 53 #[.val (.ref a1), .val (.int p2), .val (.long vj2), .second, .val (.int vi10), .val (.int hi3), .val (.int vi6)] []))
          refine own_go (fun t_ k => XS.goto X7.here hx rfl (pc0 := 53) (pc' := 12) rfl (hb hby d7_53) (by decide) (by decide) k) ?_
          show WP p e below _ (T7.setTop (mkF m 12 #[.val (.ref a1), .val (.int p2), .val (.long vj2), .second, .val (.int vi10), .val (.int hi3), .val (.int vi6)] []))
          exact ih3 T7 _ X7 N3 e7 _ (Or.inr ⟨_, rfl, rfl⟩) vi10 hi3 (he10 ▸ (own_goL hs hi0 iva3 ivb3 (own_mid he6 ivb3.1 (Int32.lt_iff_toInt_lt.mp hc16_5) (by have := ivb3; omega)) hi1 hc37_9).1) (he10 ▸ (own_goL hs hi0 iva3 ivb3 (own_mid he6 ivb3.1 (Int32.lt_iff_toInt_lt.mp hc16_5) (by have := ivb3; omega)) hi1 hc37_9).2.1) (he10 ▸ (own_goL hs hi0 iva3 ivb3 (own_mid he6 ivb3.1 (Int32.lt_iff_toInt_lt.mp hc16_5) (by have := ivb3; omega)) hi1 hc37_9).2.2) (ivd3)
        · refine own_go (fun t_ k => XS.ifYes X7.here hx rfl (pc0 := 37) (pc' := 49) rfl (hb hby d7_37) rfl ((if0 _ _).trans (flt (mt (lw_lt _ _).mp hc37_9)).2.1) (by decide) (by decide) k) ?_
          show WP p e below _ (T7.setTop (mkF m 49 #[.val (.ref a1), .val (.int p2), .val (.long vj2), .second, .val (.int lo3), .val (.int hi3), .val (.int vi6)] []))
          refine own_go (fun t_ k => XS.iload X7.here hx rfl (hb hby d7_49) rfl k) ?_
          show WP p e below _ (T7.setTop (mkF m 51 #[.val (.ref a1), .val (.int p2), .val (.long vj2), .second, .val (.int lo3), .val (.int hi3), .val (.int vi6)] [(.int vi6)]))
          refine own_go (fun t_ k => XS.istore X7.here hx rfl (hb hby d7_51) rfl (l' := #[.val (.ref a1), .val (.int p2), .val (.long vj2), .second, .val (.int lo3), .val (.int vi6), .val (.int vi6)]) rfl k) ?_
          show WP p e below _ (T7.setTop (mkF m 53 #[.val (.ref a1), .val (.int p2), .val (.long vj2), .second, .val (.int lo3), .val (.int vi6), .val (.int vi6)] []))
          refine own_go (fun t_ k => XS.goto X7.here hx rfl (pc0 := 53) (pc' := 12) rfl (hb hby d7_53) (by decide) (by decide) k) ?_
          show WP p e below _ (T7.setTop (mkF m 12 #[.val (.ref a1), .val (.int p2), .val (.long vj2), .second, .val (.int lo3), .val (.int vi6), .val (.int vi6)] []))
          exact ih3 T7 _ X7 N3 e7 _ (Or.inr ⟨_, rfl, rfl⟩) lo3 vi6 ((own_goR hs hi0 iva3 ivb3 (own_mid he6 ivb3.1 (Int32.lt_iff_toInt_lt.mp hc16_5) (by have := ivb3; omega)) hc37_9).1) ((own_goR hs hi0 iva3 ivb3 (own_mid he6 ivb3.1 (Int32.lt_iff_toInt_lt.mp hc16_5) (by have := ivb3; omega)) hc37_9).2.1) (ivc3) ((own_goR hs hi0 iva3 ivb3 (own_mid he6 ivb3.1 (Int32.lt_iff_toInt_lt.mp hc16_5) (by have := ivb3; omega)) hc37_9).2.2)
      · refine own_go (fun t_ k => XS.icmpYes X3.here hx rfl (pc0 := 16) (pc' := 56) rfl (hb hby d7_16) rfl (flt hc16_5).2.1 (by decide) (by decide) k) ?_
        show WP p e below _ (T3.setTop (mkF m 56 #[.val (.ref a1), .val (.int p2), .val (.long vj2), .second, .val (.int lo3), .val (.int hi3), s3_6] []))
        refine own_go (fun t_ k => XS.iload X3.here hx rfl (hb hby d7_56) rfl k) ?_
        show WP p e below _ (T3.setTop (mkF m 58 #[.val (.ref a1), .val (.int p2), .val (.long vj2), .second, .val (.int lo3), .val (.int hi3), s3_6] [(.int lo3)]))
        exact own_retI X3 hx Bd.notSynchronized Bd.returns (hb hby d7_58) (show PQ h0 n0 (.int (rs xs p2)) _ _ _ from ⟨by rw [own_rs (lo := lo3) (hi := hi3) hl hi0 c1 ivb3 hc16_5 (by rw [he2]; exact ivc3) (by rw [he2]; exact ivd3)], N3, e3⟩) (by decide) (by decide)
  show WP p e below _ (T1.setTop (mkF m 12 #[.val (.ref a1), .val (.int p2), .val (.long vj2), .second, .val (.int (0 : Int32)), .val (.int p2), .unset] []))
  exact Lp3 p2.toNatClampNeg T1 _ X1 N1 e1 _ (Or.inl rfl) (0 : Int32) p2 (by have := own_nat hi0; have o : (0 : Int32).toInt = 0 := rfl; omega) (by have o : (0 : Int32).toInt = 0 := rfl; omega) (fun j hj => absurd hj (by have o : (0 : Int32).toInt = 0 := rfl; omega)) (fun j hj hk => absurd hj (by have := own_nat hi0; omega))
theorem own_c3 {x c : Int32} (h : ((x &&& (3 : Int32)) % (3 : Int32)) = c) : c = 0 ∨ c = 1 ∨ c = 2 := by
  have a1 := c_mask x 3 2 (by decide) (by decide)
  have a2 := (c_irem (x &&& 3) 3 3 rfl).1
  rw [h] at a2
  have o0 : (0 : Int32).toInt = 0 := rfl
  have o1 : (1 : Int32).toInt = 1 := rfl
  have o2 : (2 : Int32).toInt = 2 := rfl
  simp only [← Int32.toInt_inj]
  omega
theorem own_c1 {x c : Int32} (h : ((1 : Int32) + (x &&& (1 : Int32))) = c) : c = 1 ∨ c = 2 := by
  have a1 := c_mask x 1 1 (by decide) (by decide)
  have a2 := c_iadd 1 (x &&& 1)
  rw [h] at a2
  have r := rng32 c
  have o1 : (1 : Int32).toInt = 1 := rfl
  have o2 : (2 : Int32).toInt = 2 := rfl
  simp only [← Int32.toInt_inj]
  omega
def lst (n0 n1 n2 : Nat) (lo mid hi : Int64) : List Int64 := List.replicate n0 lo ++ (List.replicate n1 mid ++ List.replicate n2 hi)
theorem own_list {x0 x1 x2 c0 c1 c2 n : Int32} {lo mid hi : Int64} {y1 y2 y4 y5 y6 : List Int64} (h0 : ((x0 &&& (3 : Int32)) % (3 : Int32)) = c0) (h1 : ((1 : Int32) + (x1 &&& (1 : Int32))) = c1) (h2 : ((x2 &&& (3 : Int32)) % (3 : Int32)) = c2) (hn : ((c0 + c1) + c2) = n)
    (e1 : y1 = (if (0 : Int32) < c0 then [lo] else ([] : List Int64))) (e2 : y2 = (if (1 : Int32) < c0 then (y1 ++ [lo]) else y1)) (e4 : y4 = (if (1 : Int32) < c1 then ((y2 ++ [mid]) ++ [mid]) else (y2 ++ [mid]))) (e5 : y5 = (if (0 : Int32) < c2 then (y4 ++ [hi]) else y4)) (e6 : y6 = (if (1 : Int32) < c2 then (y5 ++ [hi]) else y5)) :
    ∃ n0 n1 n2 : Nat, n0 ≤ 2 ∧ 1 ≤ n1 ∧ n1 ≤ 2 ∧ n2 ≤ 2 ∧ c0 = Int32.ofNat n0 ∧ c1 = Int32.ofNat n1 ∧ c2 = Int32.ofNat n2 ∧ n = Int32.ofNat (n0 + n1 + n2) ∧ y6 = lst n0 n1 n2 lo mid hi := by
  have q0 := own_c3 h0
  have q1 := own_c1 h1
  have q2 := own_c3 h2
  clear h0 h1 h2
  have t01 : (0 : Int32) < 1 := by decide
  have t02 : (0 : Int32) < 2 := by decide
  have t12 : (1 : Int32) < 2 := by decide
  have t00 : ¬ (0 : Int32) < 0 := by decide
  have t10 : ¬ (1 : Int32) < 0 := by decide
  have t11 : ¬ (1 : Int32) < 1 := by decide
  rcases q0 with rfl | rfl | rfl <;> rcases q1 with rfl | rfl <;> rcases q2 with rfl | rfl | rfl <;> simp only [t01, t02, t12, t00, t10, t11, if_true, if_false] at e1 e2 e4 e5 e6 <;> subst e1 e2 e4 e5 e6 hn
  · exact ⟨0, 1, 0, by decide, by decide, by decide, by decide, rfl, rfl, rfl, rfl, rfl⟩
  · exact ⟨0, 1, 1, by decide, by decide, by decide, by decide, rfl, rfl, rfl, rfl, rfl⟩
  · exact ⟨0, 1, 2, by decide, by decide, by decide, by decide, rfl, rfl, rfl, rfl, rfl⟩
  · exact ⟨0, 2, 0, by decide, by decide, by decide, by decide, rfl, rfl, rfl, rfl, rfl⟩
  · exact ⟨0, 2, 1, by decide, by decide, by decide, by decide, rfl, rfl, rfl, rfl, rfl⟩
  · exact ⟨0, 2, 2, by decide, by decide, by decide, by decide, rfl, rfl, rfl, rfl, rfl⟩
  · exact ⟨1, 1, 0, by decide, by decide, by decide, by decide, rfl, rfl, rfl, rfl, rfl⟩
  · exact ⟨1, 1, 1, by decide, by decide, by decide, by decide, rfl, rfl, rfl, rfl, rfl⟩
  · exact ⟨1, 1, 2, by decide, by decide, by decide, by decide, rfl, rfl, rfl, rfl, rfl⟩
  · exact ⟨1, 2, 0, by decide, by decide, by decide, by decide, rfl, rfl, rfl, rfl, rfl⟩
  · exact ⟨1, 2, 1, by decide, by decide, by decide, by decide, rfl, rfl, rfl, rfl, rfl⟩
  · exact ⟨1, 2, 2, by decide, by decide, by decide, by decide, rfl, rfl, rfl, rfl, rfl⟩
  · exact ⟨2, 1, 0, by decide, by decide, by decide, by decide, rfl, rfl, rfl, rfl, rfl⟩
  · exact ⟨2, 1, 1, by decide, by decide, by decide, by decide, rfl, rfl, rfl, rfl, rfl⟩
  · exact ⟨2, 1, 2, by decide, by decide, by decide, by decide, rfl, rfl, rfl, rfl, rfl⟩
  · exact ⟨2, 2, 0, by decide, by decide, by decide, by decide, rfl, rfl, rfl, rfl, rfl⟩
  · exact ⟨2, 2, 1, by decide, by decide, by decide, by decide, rfl, rfl, rfl, rfl, rfl⟩
  · exact ⟨2, 2, 2, by decide, by decide, by decide, by decide, rfl, rfl, rfl, rfl, rfl⟩
theorem lst_len (n0 n1 n2 : Nat) (lo mid hi : Int64) : (lst n0 n1 n2 lo mid hi).length = n0 + n1 + n2 := by simp [lst]; omega
theorem lst_at (n0 n1 n2 : Nat) (lo mid hi : Int64) (j : Nat) (h : j < n0 + n1 + n2) : (lst n0 n1 n2 lo mid hi).getD j 0 = if j < n0 then lo else if j < n0 + n1 then mid else hi := by
  unfold lst
  rw [List.getD_eq_getElem?_getD]
  by_cases a : j < n0
  · rw [List.getElem?_append_left (by simpa using a), List.getElem?_replicate, if_pos a, if_pos a]; rfl
  · rw [List.getElem?_append_right (by simpa using Nat.le_of_not_lt a), if_neg a, List.length_replicate]
    by_cases b : j < n0 + n1
    · rw [List.getElem?_append_left (by simp; omega), List.getElem?_replicate, if_pos (by omega), if_pos b]; rfl
    · rw [List.getElem?_append_right (by simp; omega), List.getElem?_replicate, List.length_replicate, if_pos (by omega), if_neg b]; rfl
theorem own_sorted {n0 n1 n2 : Nat} {lo mid hi : Int64} (h1 : lo.toInt ≤ mid.toInt) (h2 : mid.toInt ≤ hi.toInt) {i : Nat} (hi' : i < n0 + n1 + n2) : ∀ a b : Nat, a ≤ b → b ≤ i → ¬ ((lst n0 n1 n2 lo mid hi).getD b 0 < (lst n0 n1 n2 lo mid hi).getD a 0) := by
  intro a b hab hb
  rw [lst_at _ _ _ _ _ _ _ (by omega), lst_at _ _ _ _ _ _ _ (by omega), Int64.lt_iff_toInt_lt]
  (repeat' split) <;> omega
theorem own_mids {x y z lo mid hi : Int64} (h1 : f1 (f1 x y) z = lo) (h2 : f2 (f2 x y) z = hi) (h3 : f2 (f1 x y) (f1 (f2 x y) z) = mid) : lo.toInt ≤ mid.toInt ∧ mid.toInt ≤ hi.toInt := by
  subst h1 h2 h3
  unfold f1 f2
  (repeat' split) <;> simp only [Int64.lt_iff_toInt_lt] at * <;> omega
theorem own_rem {p v d : Int32} {n : Nat} (hd : d = Int32.ofNat n) (h0 : 0 < n) (h1 : n < 1000) (h : ((p &&& (2147483647 : Int32)) % d) = v) : 0 ≤ v.toInt ∧ v.toInt < n := by
  subst hd
  have a1 := c_mask p 2147483647 31 (by decide) (by decide)
  have a2 := (c_irem (p &&& 2147483647) (Int32.ofNat n) n (own_len n h1).1).1
  rw [h] at a2
  have m1 := Int.emod_nonneg (p &&& 2147483647).toInt (show (n : Int) ≠ 0 by omega)
  have m2 := Int.emod_lt_of_pos (p &&& 2147483647).toInt (show (0 : Int) < n by omega)
  omega
theorem own_pre {x0 x1 x2 c0 c1 c2 n p v : Int32} {x y z lo mid hi : Int64} {y1 y2 y4 y5 y6 : List Int64} (g1 : f1 (f1 x y) z = lo) (g2 : f2 (f2 x y) z = hi) (g3 : f2 (f1 x y) (f1 (f2 x y) z) = mid) (h0 : ((x0 &&& (3 : Int32)) % (3 : Int32)) = c0) (h1 : ((1 : Int32) + (x1 &&& (1 : Int32))) = c1) (h2 : ((x2 &&& (3 : Int32)) % (3 : Int32)) = c2) (hn : ((c0 + c1) + c2) = n)
    (e1 : y1 = (if (0 : Int32) < c0 then [lo] else ([] : List Int64))) (e2 : y2 = (if (1 : Int32) < c0 then (y1 ++ [lo]) else y1)) (e4 : y4 = (if (1 : Int32) < c1 then ((y2 ++ [mid]) ++ [mid]) else (y2 ++ [mid]))) (e5 : y5 = (if (0 : Int32) < c2 then (y4 ++ [hi]) else y4)) (e6 : y6 = (if (1 : Int32) < c2 then (y5 ++ [hi]) else y5)) (hv : ((p &&& (2147483647 : Int32)) % n) = v) :
    y6.length < 1000 ∧ ¬ (v < (0 : Int32)) ∧ v < Int32.ofNat y6.length ∧ (∀ a b : Nat, a ≤ b → b ≤ v.toNatClampNeg → ¬ (y6.getD b 0 < y6.getD a 0)) := by
  obtain ⟨n0, n1, n2, b0, b1, b2, b3, -, -, -, hN, rfl⟩ := own_list h0 h1 h2 hn e1 e2 e4 e5 e6
  have m := own_mids g1 g2 g3
  have r := own_rem hN (by omega) (by omega) hv
  have o0 : (0 : Int32).toInt = 0 := rfl
  have e := (own_len (n0 + n1 + n2) (by omega)).1
  have nn := own_nat r.1
  refine ⟨by rw [lst_len]; omega, by rw [Int32.lt_iff_toInt_lt]; omega, by rw [lst_len, Int32.lt_iff_toInt_lt]; omega, own_sorted m.1 m.2 (by omega)⟩
theorem own_nz {x0 x1 x2 c0 c1 c2 n : Int32} (h0 : ((x0 &&& (3 : Int32)) % (3 : Int32)) = c0) (h1 : ((1 : Int32) + (x1 &&& (1 : Int32))) = c1) (h2 : ((x2 &&& (3 : Int32)) % (3 : Int32)) = c2) (hn : ((c0 + c1) + c2) = n) : n ≠ 0 := by
  have q0 := own_c3 h0
  have q1 := own_c1 h1
  have q2 := own_c3 h2
  subst hn
  rcases q0 with rfl | rfl | rfl <;> rcases q1 with rfl | rfl <;> rcases q2 with rfl | rfl | rfl <;> decide
theorem own_cnt {n0 n1 n2 i : Nat} {lo mid hi : Int64} (v : Int64) (h : i < n0 + n1 + n2) : ((lst n0 n1 n2 lo mid hi).take i).countP (fun z => decide (z < v)) = (if lo < v then min i n0 else 0) + (if mid < v then min (i - n0) n1 else 0) + (if hi < v then min (i - n0 - n1) n2 else 0) := by
  unfold lst
  rw [List.take_append, List.take_append, List.countP_append, List.countP_append, List.take_replicate, List.take_replicate, List.take_replicate, List.countP_replicate, List.countP_replicate, List.countP_replicate, List.length_replicate, List.length_replicate]
  simp only [decide_eq_true_eq]
  omega
theorem own_final {n0 n1 n2 : Nat} {lo mid hi v : Int64} {i : Nat} (m1 : lo.toInt ≤ mid.toInt) (m2 : mid.toInt ≤ hi.toInt) (h : i < n0 + n1 + n2) (hv : v = if i < n0 then lo else if i < n0 + n1 then mid else hi) :
    (if lo < v then min i n0 else 0) + (if mid < v then min (i - n0) n1 else 0) + (if hi < v then min (i - n0 - n1) n2 else 0) = (if lo < v then n0 else 0) + (if mid < v then n1 else 0) + (if hi < v then n2 else 0) := by
  subst hv
  simp only [Int64.lt_iff_toInt_lt]
  by_cases a : i < n0
  · simp only [a, if_true]
    (repeat' split) <;> omega
  · by_cases b : i < n0 + n1
    · simp only [a, b, if_true, if_false]
      (repeat' split) <;> omega
    · simp only [a, b, if_false]
      (repeat' split) <;> omega
theorem pd_4 : parseMethodDescriptor "(JJ)J" = some ⟨[.long, .long], some .long⟩ := by decide +kernel
theorem pd_5 : parseMethodDescriptor "()V" = some ⟨[], none⟩ := by decide +kernel
theorem pd_6 : parseMethodDescriptor "(J)V" = some ⟨[.long], none⟩ := by decide +kernel
theorem pd_7 : parseMethodDescriptor "(I)I" = some ⟨[.int], some .int⟩ := by decide +kernel
theorem own_law_1 {q1 : Int64} {q2 : Int64} {q3 : Int64} {p4 : Int32} {p5 : Int32} {vj2 : Int64} {vj4 : Int64} {vj6 : Int64} {vj8 : Int64} {vj10 : Int64} {vj12 : Int64} {vj14 : Int64} {vj16 : Int64} {vi17 : Int32} {vi18 : Int32} {vi19 : Int32} {vi20 : Int32} {xs25 : List Int64} {xs28 : List Int64} {xs32 : List Int64} {xs35 : List Int64} {xs38 : List Int64} {vi39 : Int32} {zz41_L20 : Int64} {z44_S0 : Int32} {z47_S0 : Int32} {z50_S0 : Int32} {vi52 : Int32} {vi55 : Int32} {z57_S0 : Int32}
    (he2 : (f1 q1 q2) = vj2)
    (he4 : (f1 vj2 q3) = vj4)
    (he6 : (f2 q1 q2) = vj6)
    (he8 : (f2 vj6 q3) = vj8)
    (he10 : (f1 q1 q2) = vj10)
    (he12 : (f2 q1 q2) = vj12)
    (he14 : (f1 vj12 q3) = vj14)
    (he16 : (f2 vj10 vj14) = vj16)
    (he17 : ((p4 &&& (3 : Int32)) % (3 : Int32)) = vi17)
    (he18 : ((1 : Int32) + (((p4.toUInt32 >>> ((2 : Int32) &&& 31).toUInt32).toInt32) &&& (1 : Int32))) = vi18)
    (he19 : ((((p4.toUInt32 >>> ((3 : Int32) &&& 31).toUInt32).toInt32) &&& (3 : Int32)) % (3 : Int32)) = vi19)
    (he20 : ((vi17 + vi18) + vi19) = vi20)
    (hx25 : xs25 = (if (0 : Int32) < vi17 then [vj4] else ([] : List Int64)))
    (hx28 : xs28 = (if (1 : Int32) < vi17 then (xs25 ++ [vj4]) else xs25))
    (hx32 : xs32 = (if (1 : Int32) < vi18 then ((xs28 ++ [vj16]) ++ [vj16]) else (xs28 ++ [vj16])))
    (hx35 : xs35 = (if (0 : Int32) < vi19 then (xs32 ++ [vj8]) else xs32))
    (hx38 : xs38 = (if (1 : Int32) < vi19 then (xs35 ++ [vj8]) else xs35))
    (he39 : ((p5 &&& (2147483647 : Int32)) % vi20) = vi39)
    (hzz41_L20 : zz41_L20 = (if vi39 < vi17 then vj4 else (if vi39 < (vi17 + vi18) then vj16 else vj8)))
    (hz44_S0 : z44_S0 = (if vj4 < zz41_L20 then vi17 else (0 : Int32)))
    (hz47_S0 : z47_S0 = (if vj16 < zz41_L20 then vi18 else (0 : Int32)))
    (hz50_S0 : z50_S0 = (if vj8 < zz41_L20 then vi19 else (0 : Int32)))
    (he52 : ((z44_S0 + z47_S0) + z50_S0) = vi52)
    (he55 : (rs xs38 vi39) = vi55)
    (hz57_S0 : z57_S0 = (if vi55 = vi52 then (1 : Int32) else (0 : Int32)))  : z57_S0 = 1 := by
  have hlo : f1 (f1 q1 q2) q3 = vj4 := by rw [← he4, ← he2]
  have hhi : f2 (f2 q1 q2) q3 = vj8 := by rw [← he8, ← he6]
  have hmid : f2 (f1 q1 q2) (f1 (f2 q1 q2) q3) = vj16 := by rw [← he16, ← he10, ← he14, ← he12]
  obtain ⟨n0, n1, n2, b0, b1, b2, b3, e0, e1, e2, hN, exs⟩ := own_list he17 he18 he19 he20 hx25 hx28 hx32 hx35 hx38
  have m := own_mids hlo hhi hmid
  have r := own_rem hN (by omega) (by omega) he39
  have nn := own_nat r.1
  have l0 := (own_len n0 (by omega)).1
  have l1 := (own_len n1 (by omega)).1
  have l2 := (own_len n2 (by omega)).1
  have s01 := c_iadd vi17 vi18
  have rs01 := rng32 (vi17 + vi18)
  have hvv : zz41_L20 = if vi39.toNatClampNeg < n0 then vj4 else if vi39.toNatClampNeg < n0 + n1 then vj16 else vj8 := by
    rw [hzz41_L20]
    have q1 : (vi39 < vi17) ↔ vi39.toNatClampNeg < n0 := by rw [Int32.lt_iff_toInt_lt, e0]; omega
    have q2 : (vi39 < (vi17 + vi18)) ↔ vi39.toNatClampNeg < n0 + n1 := by rw [Int32.lt_iff_toInt_lt]; rw [e0, e1] at s01 rs01 ⊢; omega
    simp only [q1, q2]
  have cnt := own_cnt (n0 := n0) (n1 := n1) (n2 := n2) (lo := vj4) (mid := vj16) (hi := vj8) (i := vi39.toNatClampNeg) zz41_L20 (by omega)
  rw [own_final m.1 m.2 (by omega) hvv] at cnt
  have e : vi55 = vi52 := by
    rw [← he55, rs, exs, lst_at _ _ _ _ _ _ _ (by omega), ← hvv, cnt, ← he52, hz44_S0, hz47_S0, hz50_S0, e0, e1, e2, Int32.ofNat_add, Int32.ofNat_add]
    (repeat' split) <;> rfl
  rw [if_pos e] at hz57_S0
  exact hz57_S0
theorem pn_3 : plainName "com/example/vestry/vestry/LongsRunStartPinLaw" = true := by first | (simp [plainName, overriddenIn]; done) | decide +kernel
theorem ef_rm0 (m : MethodId) (x0 : Int64) (x1 : Int64) (x2 : Int64) (x3 : Int32) (x4 : Int32) : entryFrame m #[(.long x0), (.long x1), (.long x2), (.int x3), (.int x4)] maxLocals = mkF m 0 #[.val (.long x0), .second, .val (.long x1), .second, .val (.long x2), .second, .val (.int x3), .val (.int x4), .unset, .unset, .unset, .unset, .unset, .unset, .unset, .unset, .unset, .unset, .unset, .unset, .unset, .unset, .unset] [] := by first | (simp [entryFrame, mkF, argsToLocals, Value.category, maxLocals]; done) | rfl
set_option maxRecDepth 65536 in
set_option maxHeartbeats 40000000 in
theorem rm0 (l : Launch) (Z : State) (a0 : Array Value) (hw : ∀ d ∈ tables_1, d.before a0 Z = true) (ws : List Jvm.Cond) (q1 : Int64) (q2 : Int64) (q3 : Int64) (p4 : Int32) (p5 : Int32) (h0 : Heap) (n0 : Nat) (Z0 : n0 ≤ h0.size) :
    MetFree l x (head1 (Jvm.Cond.code x code maxLocals ret :: ws) room_1) (fun a U => a = #[(.long q1), (.long q2), (.long q3), (.int p4), (.int p5)] ∧ Z.Warmed39 U.vm ∧ U.heap = h0) (fun _ _ _ _ _ => True) (fun _ U o U' => ∃ v L, o = .returned v ∧ (Q0 n0) v U'.heap L ∧ FrameEnd U o U' L room_1.cells room_1.slots) := by
  refine MetFree.of_bodySF (plainFor_of_name pn_3) hisR ?_
  intro p e s m args below meth c s₁ Bd hml0 hP hK
  obtain ⟨rfl, hZ, hh⟩ := hP
  have hx := Bd.exec
  have hby := Bd.bytes
  have hml : c.maxLocals = 23 := hml0
  have hown : s.vm.findClass "com/example/vestry/vestry/LongsRunStartPinLaw" = some m.cls := findClass_of_methodNamed Bd.named
  have hnm := (name_of_methodNamed Bd.named Bd.method).1
  have X0 : Stand p l e room_1 s m #[(.long q1), (.long q2), (.long q3), (.int p4), (.int p5)] below meth c s₁ [] 0 0 := Stand.of_body Bd
  have e0 : s₁.heap = h0 := by rw [← hh, Bd.state]; rfl
  have N0 := Fr.nil n0
  show WP p e below (GG (Q0 n0) s room_1.cells room_1.slots) (s₁.setTop (entryFrame m #[(.long q1), (.long q2), (.long q3), (.int p4), (.int p5)] maxLocals))
  rw [ef_rm0 m q1 q2 q3 p4 p5]
  show WP p e below _ (s₁.setTop (mkF m 0 #[.val (.long q1), .second, .val (.long q2), .second, .val (.long q3), .second, .val (.int p4), .val (.int p5), .unset, .unset, .unset, .unset, .unset, .unset, .unset, .unset, .unset, .unset, .unset, .unset, .unset, .unset, .unset] []))
  refine own_go (fun t_ k => XS.lloadN X0.here hx rfl (hb hby at_0) rfl k) ?_
  show WP p e below _ (s₁.setTop (mkF m 1 #[.val (.long q1), .second, .val (.long q2), .second, .val (.long q3), .second, .val (.int p4), .val (.int p5), .unset, .unset, .unset, .unset, .unset, .unset, .unset, .unset, .unset, .unset, .unset, .unset, .unset, .unset, .unset] [(.long q1)]))
  refine own_go (fun t_ k => XS.lloadN X0.here hx rfl (hb hby at_1) rfl k) ?_
  show WP p e below _ (s₁.setTop (mkF m 2 #[.val (.long q1), .second, .val (.long q2), .second, .val (.long q3), .second, .val (.int p4), .val (.int p5), .unset, .unset, .unset, .unset, .unset, .unset, .unset, .unset, .unset, .unset, .unset, .unset, .unset, .unset, .unset] [(.long q2), (.long q1)]))
  obtain ⟨_, _, ⟨T1, L1, k1, n1⟩, -, X1, ⟨Lc1, hQ1, l1, y1, z1⟩, st1⟩ := Jvm.LawKit.callS X0 hx (y := (⟨"java/lang/Math", "min", "(JJ)J"⟩ : MethodName)) hown (mvT hZ (hw _ (List.mem_of_getElem? (i := 0) rfl))) (mvT hZ (hw _ (List.mem_of_getElem? (i := 1) rfl))) (mvT hZ (hw _ (List.mem_of_getElem? (i := 2) rfl))) (mvT hZ (hw _ (List.mem_of_getElem? (i := 3) rfl))) (by decide) (backOf (W := 0) (rm1 l Z a0 hw [] q1 q2 h0 n0) hZ (hw _ (List.mem_of_getElem? (i := 3) rfl)) (hw _ (List.mem_of_getElem? (i := 2) rfl)) (by decide) (by decide)) (g := (mkF m 2 #[.val (.long q1), .second, .val (.long q2), .second, .val (.long q3), .second, .val (.int p4), .val (.int p5), .unset, .unset, .unset, .unset, .unset, .unset, .unset, .unset, .unset, .unset, .unset, .unset, .unset, .unset, .unset] [(.long q2), (.long q1)])) rfl (by rw [hml]; rfl) (argsL := [(.long q1), (.long q2)]) (rest := []) (lenOf pd_4 rfl) rfl (by show 2 * 0 + _ ≤ _; exact Nat.le_of_eq rfl) (hb hby at_2) (fun _ _ => ⟨rfl, e0, (by decide : 0 + 0 ≤ _), (by decide : 0 + 0 ≤ _)⟩)
  dsimp only [Pt.U, Pt.locs, Pt.cells, Pt.slots] at X1 l1 y1 z1 st1 hQ1
  subst l1 y1 z1
  obtain ⟨rfl, N1q, e1⟩ := hQ1
  have N1 := Fr.app N0 N1q
  replace X1 : Stand p l e room_1 s m _ below meth c T1 _ 0 0 := X1
  refine own_go st1 ?_
  show WP p e below _ (T1.setTop (mkF m 5 #[.val (.long q1), .second, .val (.long q2), .second, .val (.long q3), .second, .val (.int p4), .val (.int p5), .unset, .unset, .unset, .unset, .unset, .unset, .unset, .unset, .unset, .unset, .unset, .unset, .unset, .unset, .unset] [(.long (f1 q1 q2))]))
  generalize he2 : (f1 q1 q2) = vj2
  show WP p e below _ (T1.setTop (mkF m 5 #[.val (.long q1), .second, .val (.long q2), .second, .val (.long q3), .second, .val (.int p4), .val (.int p5), .unset, .unset, .unset, .unset, .unset, .unset, .unset, .unset, .unset, .unset, .unset, .unset, .unset, .unset, .unset] [(.long vj2)]))
  refine own_go (fun t_ k => XS.lload X1.here hx rfl (hb hby at_5) rfl k) ?_
  show WP p e below _ (T1.setTop (mkF m 7 #[.val (.long q1), .second, .val (.long q2), .second, .val (.long q3), .second, .val (.int p4), .val (.int p5), .unset, .unset, .unset, .unset, .unset, .unset, .unset, .unset, .unset, .unset, .unset, .unset, .unset, .unset, .unset] [(.long q3), (.long vj2)]))
  obtain ⟨_, _, ⟨T3, L3, k3, n3⟩, -, X3, ⟨Lc3, hQ3, l3, y3, z3⟩, st3⟩ := Jvm.LawKit.callS X1 hx (y := (⟨"java/lang/Math", "min", "(JJ)J"⟩ : MethodName)) hown (mvT hZ (hw _ (List.mem_of_getElem? (i := 0) rfl))) (mvT hZ (hw _ (List.mem_of_getElem? (i := 1) rfl))) (mvT hZ (hw _ (List.mem_of_getElem? (i := 2) rfl))) (mvT hZ (hw _ (List.mem_of_getElem? (i := 3) rfl))) (by decide) (backOf (W := 0) (rm1 l Z a0 hw [] vj2 q3 h0 n0) hZ (hw _ (List.mem_of_getElem? (i := 3) rfl)) (hw _ (List.mem_of_getElem? (i := 2) rfl)) (by decide) (by decide)) (g := (mkF m 7 #[.val (.long q1), .second, .val (.long q2), .second, .val (.long q3), .second, .val (.int p4), .val (.int p5), .unset, .unset, .unset, .unset, .unset, .unset, .unset, .unset, .unset, .unset, .unset, .unset, .unset, .unset, .unset] [(.long q3), (.long vj2)])) rfl (by rw [hml]; rfl) (argsL := [(.long vj2), (.long q3)]) (rest := []) (lenOf pd_4 rfl) rfl (by show 2 * 0 + _ ≤ _; exact Nat.le_of_eq rfl) (hb hby at_7) (fun _ _ => ⟨rfl, e1, (by decide : 0 + 0 ≤ _), (by decide : 0 + 0 ≤ _)⟩)
  dsimp only [Pt.U, Pt.locs, Pt.cells, Pt.slots] at X3 l3 y3 z3 st3 hQ3
  subst l3 y3 z3
  obtain ⟨rfl, N3q, e3⟩ := hQ3
  have N3 := Fr.app N1 N3q
  replace X3 : Stand p l e room_1 s m _ below meth c T3 _ 0 0 := X3
  refine own_go st3 ?_
  show WP p e below _ (T3.setTop (mkF m 10 #[.val (.long q1), .second, .val (.long q2), .second, .val (.long q3), .second, .val (.int p4), .val (.int p5), .unset, .unset, .unset, .unset, .unset, .unset, .unset, .unset, .unset, .unset, .unset, .unset, .unset, .unset, .unset] [(.long (f1 vj2 q3))]))
  generalize he4 : (f1 vj2 q3) = vj4
  show WP p e below _ (T3.setTop (mkF m 10 #[.val (.long q1), .second, .val (.long q2), .second, .val (.long q3), .second, .val (.int p4), .val (.int p5), .unset, .unset, .unset, .unset, .unset, .unset, .unset, .unset, .unset, .unset, .unset, .unset, .unset, .unset, .unset] [(.long vj4)]))
  refine own_go (fun t_ k => XS.lstore X3.here hx rfl (hb hby at_10) rfl (l' := #[.val (.long q1), .second, .val (.long q2), .second, .val (.long q3), .second, .val (.int p4), .val (.int p5), .val (.long vj4), .second, .unset, .unset, .unset, .unset, .unset, .unset, .unset, .unset, .unset, .unset, .unset, .unset, .unset]) rfl k) ?_
  show WP p e below _ (T3.setTop (mkF m 12 #[.val (.long q1), .second, .val (.long q2), .second, .val (.long q3), .second, .val (.int p4), .val (.int p5), .val (.long vj4), .second, .unset, .unset, .unset, .unset, .unset, .unset, .unset, .unset, .unset, .unset, .unset, .unset, .unset] []))
  refine own_go (fun t_ k => XS.lloadN X3.here hx rfl (hb hby at_12) rfl k) ?_
  show WP p e below _ (T3.setTop (mkF m 13 #[.val (.long q1), .second, .val (.long q2), .second, .val (.long q3), .second, .val (.int p4), .val (.int p5), .val (.long vj4), .second, .unset, .unset, .unset, .unset, .unset, .unset, .unset, .unset, .unset, .unset, .unset, .unset, .unset] [(.long q1)]))
  refine own_go (fun t_ k => XS.lloadN X3.here hx rfl (hb hby at_13) rfl k) ?_
  show WP p e below _ (T3.setTop (mkF m 14 #[.val (.long q1), .second, .val (.long q2), .second, .val (.long q3), .second, .val (.int p4), .val (.int p5), .val (.long vj4), .second, .unset, .unset, .unset, .unset, .unset, .unset, .unset, .unset, .unset, .unset, .unset, .unset, .unset] [(.long q2), (.long q1)]))
  obtain ⟨_, _, ⟨T5, L5, k5, n5⟩, -, X5, ⟨Lc5, hQ5, l5, y5, z5⟩, st5⟩ := Jvm.LawKit.callS X3 hx (y := (⟨"java/lang/Math", "max", "(JJ)J"⟩ : MethodName)) hown (mvT hZ (hw _ (List.mem_of_getElem? (i := 4) rfl))) (mvT hZ (hw _ (List.mem_of_getElem? (i := 5) rfl))) (mvT hZ (hw _ (List.mem_of_getElem? (i := 2) rfl))) (mvT hZ (hw _ (List.mem_of_getElem? (i := 6) rfl))) (by decide) (backOf (W := 0) (rm2 l Z a0 hw [] q1 q2 h0 n0) hZ (hw _ (List.mem_of_getElem? (i := 6) rfl)) (hw _ (List.mem_of_getElem? (i := 2) rfl)) (by decide) (by decide)) (g := (mkF m 14 #[.val (.long q1), .second, .val (.long q2), .second, .val (.long q3), .second, .val (.int p4), .val (.int p5), .val (.long vj4), .second, .unset, .unset, .unset, .unset, .unset, .unset, .unset, .unset, .unset, .unset, .unset, .unset, .unset] [(.long q2), (.long q1)])) rfl (by rw [hml]; rfl) (argsL := [(.long q1), (.long q2)]) (rest := []) (lenOf pd_4 rfl) rfl (by show 2 * 0 + _ ≤ _; exact Nat.le_of_eq rfl) (hb hby at_14) (fun _ _ => ⟨rfl, e3, (by decide : 0 + 0 ≤ _), (by decide : 0 + 0 ≤ _)⟩)
  dsimp only [Pt.U, Pt.locs, Pt.cells, Pt.slots] at X5 l5 y5 z5 st5 hQ5
  subst l5 y5 z5
  obtain ⟨rfl, N5q, e5⟩ := hQ5
  have N5 := Fr.app N3 N5q
  replace X5 : Stand p l e room_1 s m _ below meth c T5 _ 0 0 := X5
  refine own_go st5 ?_
  show WP p e below _ (T5.setTop (mkF m 17 #[.val (.long q1), .second, .val (.long q2), .second, .val (.long q3), .second, .val (.int p4), .val (.int p5), .val (.long vj4), .second, .unset, .unset, .unset, .unset, .unset, .unset, .unset, .unset, .unset, .unset, .unset, .unset, .unset] [(.long (f2 q1 q2))]))
  generalize he6 : (f2 q1 q2) = vj6
  show WP p e below _ (T5.setTop (mkF m 17 #[.val (.long q1), .second, .val (.long q2), .second, .val (.long q3), .second, .val (.int p4), .val (.int p5), .val (.long vj4), .second, .unset, .unset, .unset, .unset, .unset, .unset, .unset, .unset, .unset, .unset, .unset, .unset, .unset] [(.long vj6)]))
  refine own_go (fun t_ k => XS.lload X5.here hx rfl (hb hby at_17) rfl k) ?_
  show WP p e below _ (T5.setTop (mkF m 19 #[.val (.long q1), .second, .val (.long q2), .second, .val (.long q3), .second, .val (.int p4), .val (.int p5), .val (.long vj4), .second, .unset, .unset, .unset, .unset, .unset, .unset, .unset, .unset, .unset, .unset, .unset, .unset, .unset] [(.long q3), (.long vj6)]))
  obtain ⟨_, _, ⟨T7, L7, k7, n7⟩, -, X7, ⟨Lc7, hQ7, l7, y7, z7⟩, st7⟩ := Jvm.LawKit.callS X5 hx (y := (⟨"java/lang/Math", "max", "(JJ)J"⟩ : MethodName)) hown (mvT hZ (hw _ (List.mem_of_getElem? (i := 4) rfl))) (mvT hZ (hw _ (List.mem_of_getElem? (i := 5) rfl))) (mvT hZ (hw _ (List.mem_of_getElem? (i := 2) rfl))) (mvT hZ (hw _ (List.mem_of_getElem? (i := 6) rfl))) (by decide) (backOf (W := 0) (rm2 l Z a0 hw [] vj6 q3 h0 n0) hZ (hw _ (List.mem_of_getElem? (i := 6) rfl)) (hw _ (List.mem_of_getElem? (i := 2) rfl)) (by decide) (by decide)) (g := (mkF m 19 #[.val (.long q1), .second, .val (.long q2), .second, .val (.long q3), .second, .val (.int p4), .val (.int p5), .val (.long vj4), .second, .unset, .unset, .unset, .unset, .unset, .unset, .unset, .unset, .unset, .unset, .unset, .unset, .unset] [(.long q3), (.long vj6)])) rfl (by rw [hml]; rfl) (argsL := [(.long vj6), (.long q3)]) (rest := []) (lenOf pd_4 rfl) rfl (by show 2 * 0 + _ ≤ _; exact Nat.le_of_eq rfl) (hb hby at_19) (fun _ _ => ⟨rfl, e5, (by decide : 0 + 0 ≤ _), (by decide : 0 + 0 ≤ _)⟩)
  dsimp only [Pt.U, Pt.locs, Pt.cells, Pt.slots] at X7 l7 y7 z7 st7 hQ7
  subst l7 y7 z7
  obtain ⟨rfl, N7q, e7⟩ := hQ7
  have N7 := Fr.app N5 N7q
  replace X7 : Stand p l e room_1 s m _ below meth c T7 _ 0 0 := X7
  refine own_go st7 ?_
  show WP p e below _ (T7.setTop (mkF m 22 #[.val (.long q1), .second, .val (.long q2), .second, .val (.long q3), .second, .val (.int p4), .val (.int p5), .val (.long vj4), .second, .unset, .unset, .unset, .unset, .unset, .unset, .unset, .unset, .unset, .unset, .unset, .unset, .unset] [(.long (f2 vj6 q3))]))
  generalize he8 : (f2 vj6 q3) = vj8
  show WP p e below _ (T7.setTop (mkF m 22 #[.val (.long q1), .second, .val (.long q2), .second, .val (.long q3), .second, .val (.int p4), .val (.int p5), .val (.long vj4), .second, .unset, .unset, .unset, .unset, .unset, .unset, .unset, .unset, .unset, .unset, .unset, .unset, .unset] [(.long vj8)]))
  refine own_go (fun t_ k => XS.lstore X7.here hx rfl (hb hby at_22) rfl (l' := #[.val (.long q1), .second, .val (.long q2), .second, .val (.long q3), .second, .val (.int p4), .val (.int p5), .val (.long vj4), .second, .val (.long vj8), .second, .unset, .unset, .unset, .unset, .unset, .unset, .unset, .unset, .unset, .unset, .unset]) rfl k) ?_
  show WP p e below _ (T7.setTop (mkF m 24 #[.val (.long q1), .second, .val (.long q2), .second, .val (.long q3), .second, .val (.int p4), .val (.int p5), .val (.long vj4), .second, .val (.long vj8), .second, .unset, .unset, .unset, .unset, .unset, .unset, .unset, .unset, .unset, .unset, .unset] []))
  refine own_go (fun t_ k => XS.lloadN X7.here hx rfl (hb hby at_24) rfl k) ?_
  show WP p e below _ (T7.setTop (mkF m 25 #[.val (.long q1), .second, .val (.long q2), .second, .val (.long q3), .second, .val (.int p4), .val (.int p5), .val (.long vj4), .second, .val (.long vj8), .second, .unset, .unset, .unset, .unset, .unset, .unset, .unset, .unset, .unset, .unset, .unset] [(.long q1)]))
  refine own_go (fun t_ k => XS.lloadN X7.here hx rfl (hb hby at_25) rfl k) ?_
  show WP p e below _ (T7.setTop (mkF m 26 #[.val (.long q1), .second, .val (.long q2), .second, .val (.long q3), .second, .val (.int p4), .val (.int p5), .val (.long vj4), .second, .val (.long vj8), .second, .unset, .unset, .unset, .unset, .unset, .unset, .unset, .unset, .unset, .unset, .unset] [(.long q2), (.long q1)]))
  obtain ⟨_, _, ⟨T9, L9, k9, n9⟩, -, X9, ⟨Lc9, hQ9, l9, y9, z9⟩, st9⟩ := Jvm.LawKit.callS X7 hx (y := (⟨"java/lang/Math", "min", "(JJ)J"⟩ : MethodName)) hown (mvT hZ (hw _ (List.mem_of_getElem? (i := 0) rfl))) (mvT hZ (hw _ (List.mem_of_getElem? (i := 1) rfl))) (mvT hZ (hw _ (List.mem_of_getElem? (i := 2) rfl))) (mvT hZ (hw _ (List.mem_of_getElem? (i := 3) rfl))) (by decide) (backOf (W := 0) (rm1 l Z a0 hw [] q1 q2 h0 n0) hZ (hw _ (List.mem_of_getElem? (i := 3) rfl)) (hw _ (List.mem_of_getElem? (i := 2) rfl)) (by decide) (by decide)) (g := (mkF m 26 #[.val (.long q1), .second, .val (.long q2), .second, .val (.long q3), .second, .val (.int p4), .val (.int p5), .val (.long vj4), .second, .val (.long vj8), .second, .unset, .unset, .unset, .unset, .unset, .unset, .unset, .unset, .unset, .unset, .unset] [(.long q2), (.long q1)])) rfl (by rw [hml]; rfl) (argsL := [(.long q1), (.long q2)]) (rest := []) (lenOf pd_4 rfl) rfl (by show 2 * 0 + _ ≤ _; exact Nat.le_of_eq rfl) (hb hby at_26) (fun _ _ => ⟨rfl, e7, (by decide : 0 + 0 ≤ _), (by decide : 0 + 0 ≤ _)⟩)
  dsimp only [Pt.U, Pt.locs, Pt.cells, Pt.slots] at X9 l9 y9 z9 st9 hQ9
  subst l9 y9 z9
  obtain ⟨rfl, N9q, e9⟩ := hQ9
  have N9 := Fr.app N7 N9q
  replace X9 : Stand p l e room_1 s m _ below meth c T9 _ 0 0 := X9
  refine own_go st9 ?_
  show WP p e below _ (T9.setTop (mkF m 29 #[.val (.long q1), .second, .val (.long q2), .second, .val (.long q3), .second, .val (.int p4), .val (.int p5), .val (.long vj4), .second, .val (.long vj8), .second, .unset, .unset, .unset, .unset, .unset, .unset, .unset, .unset, .unset, .unset, .unset] [(.long (f1 q1 q2))]))
  generalize he10 : (f1 q1 q2) = vj10
  show WP p e below _ (T9.setTop (mkF m 29 #[.val (.long q1), .second, .val (.long q2), .second, .val (.long q3), .second, .val (.int p4), .val (.int p5), .val (.long vj4), .second, .val (.long vj8), .second, .unset, .unset, .unset, .unset, .unset, .unset, .unset, .unset, .unset, .unset, .unset] [(.long vj10)]))
  refine own_go (fun t_ k => XS.lloadN X9.here hx rfl (hb hby at_29) rfl k) ?_
  show WP p e below _ (T9.setTop (mkF m 30 #[.val (.long q1), .second, .val (.long q2), .second, .val (.long q3), .second, .val (.int p4), .val (.int p5), .val (.long vj4), .second, .val (.long vj8), .second, .unset, .unset, .unset, .unset, .unset, .unset, .unset, .unset, .unset, .unset, .unset] [(.long q1), (.long vj10)]))
  refine own_go (fun t_ k => XS.lloadN X9.here hx rfl (hb hby at_30) rfl k) ?_
  show WP p e below _ (T9.setTop (mkF m 31 #[.val (.long q1), .second, .val (.long q2), .second, .val (.long q3), .second, .val (.int p4), .val (.int p5), .val (.long vj4), .second, .val (.long vj8), .second, .unset, .unset, .unset, .unset, .unset, .unset, .unset, .unset, .unset, .unset, .unset] [(.long q2), (.long q1), (.long vj10)]))
  obtain ⟨_, _, ⟨T11, L11, k11, n11⟩, -, X11, ⟨Lc11, hQ11, l11, y11, z11⟩, st11⟩ := Jvm.LawKit.callS X9 hx (y := (⟨"java/lang/Math", "max", "(JJ)J"⟩ : MethodName)) hown (mvT hZ (hw _ (List.mem_of_getElem? (i := 4) rfl))) (mvT hZ (hw _ (List.mem_of_getElem? (i := 5) rfl))) (mvT hZ (hw _ (List.mem_of_getElem? (i := 2) rfl))) (mvT hZ (hw _ (List.mem_of_getElem? (i := 6) rfl))) (by decide) (backOf (W := 2) (rm2 l Z a0 hw [] q1 q2 h0 n0) hZ (hw _ (List.mem_of_getElem? (i := 6) rfl)) (hw _ (List.mem_of_getElem? (i := 2) rfl)) (by decide) (by decide)) (g := (mkF m 31 #[.val (.long q1), .second, .val (.long q2), .second, .val (.long q3), .second, .val (.int p4), .val (.int p5), .val (.long vj4), .second, .val (.long vj8), .second, .unset, .unset, .unset, .unset, .unset, .unset, .unset, .unset, .unset, .unset, .unset] [(.long q2), (.long q1), (.long vj10)])) rfl (by rw [hml]; rfl) (argsL := [(.long q1), (.long q2)]) (rest := [(.long vj10)]) (lenOf pd_4 rfl) rfl (by show 2 * 0 + _ ≤ _; exact Nat.le_of_eq rfl) (hb hby at_31) (fun _ _ => ⟨rfl, e9, (by decide : 0 + 0 ≤ _), (by decide : 0 + 0 ≤ _)⟩)
  dsimp only [Pt.U, Pt.locs, Pt.cells, Pt.slots] at X11 l11 y11 z11 st11 hQ11
  subst l11 y11 z11
  obtain ⟨rfl, N11q, e11⟩ := hQ11
  have N11 := Fr.app N9 N11q
  replace X11 : Stand p l e room_1 s m _ below meth c T11 _ 0 0 := X11
  refine own_go st11 ?_
  show WP p e below _ (T11.setTop (mkF m 34 #[.val (.long q1), .second, .val (.long q2), .second, .val (.long q3), .second, .val (.int p4), .val (.int p5), .val (.long vj4), .second, .val (.long vj8), .second, .unset, .unset, .unset, .unset, .unset, .unset, .unset, .unset, .unset, .unset, .unset] [(.long (f2 q1 q2)), (.long vj10)]))
  generalize he12 : (f2 q1 q2) = vj12
  show WP p e below _ (T11.setTop (mkF m 34 #[.val (.long q1), .second, .val (.long q2), .second, .val (.long q3), .second, .val (.int p4), .val (.int p5), .val (.long vj4), .second, .val (.long vj8), .second, .unset, .unset, .unset, .unset, .unset, .unset, .unset, .unset, .unset, .unset, .unset] [(.long vj12), (.long vj10)]))
  refine own_go (fun t_ k => XS.lload X11.here hx rfl (hb hby at_34) rfl k) ?_
  show WP p e below _ (T11.setTop (mkF m 36 #[.val (.long q1), .second, .val (.long q2), .second, .val (.long q3), .second, .val (.int p4), .val (.int p5), .val (.long vj4), .second, .val (.long vj8), .second, .unset, .unset, .unset, .unset, .unset, .unset, .unset, .unset, .unset, .unset, .unset] [(.long q3), (.long vj12), (.long vj10)]))
  obtain ⟨_, _, ⟨T13, L13, k13, n13⟩, -, X13, ⟨Lc13, hQ13, l13, y13, z13⟩, st13⟩ := Jvm.LawKit.callS X11 hx (y := (⟨"java/lang/Math", "min", "(JJ)J"⟩ : MethodName)) hown (mvT hZ (hw _ (List.mem_of_getElem? (i := 0) rfl))) (mvT hZ (hw _ (List.mem_of_getElem? (i := 1) rfl))) (mvT hZ (hw _ (List.mem_of_getElem? (i := 2) rfl))) (mvT hZ (hw _ (List.mem_of_getElem? (i := 3) rfl))) (by decide) (backOf (W := 2) (rm1 l Z a0 hw [] vj12 q3 h0 n0) hZ (hw _ (List.mem_of_getElem? (i := 3) rfl)) (hw _ (List.mem_of_getElem? (i := 2) rfl)) (by decide) (by decide)) (g := (mkF m 36 #[.val (.long q1), .second, .val (.long q2), .second, .val (.long q3), .second, .val (.int p4), .val (.int p5), .val (.long vj4), .second, .val (.long vj8), .second, .unset, .unset, .unset, .unset, .unset, .unset, .unset, .unset, .unset, .unset, .unset] [(.long q3), (.long vj12), (.long vj10)])) rfl (by rw [hml]; rfl) (argsL := [(.long vj12), (.long q3)]) (rest := [(.long vj10)]) (lenOf pd_4 rfl) rfl (by show 2 * 0 + _ ≤ _; exact Nat.le_of_eq rfl) (hb hby at_36) (fun _ _ => ⟨rfl, e11, (by decide : 0 + 0 ≤ _), (by decide : 0 + 0 ≤ _)⟩)
  dsimp only [Pt.U, Pt.locs, Pt.cells, Pt.slots] at X13 l13 y13 z13 st13 hQ13
  subst l13 y13 z13
  obtain ⟨rfl, N13q, e13⟩ := hQ13
  have N13 := Fr.app N11 N13q
  replace X13 : Stand p l e room_1 s m _ below meth c T13 _ 0 0 := X13
  refine own_go st13 ?_
  show WP p e below _ (T13.setTop (mkF m 39 #[.val (.long q1), .second, .val (.long q2), .second, .val (.long q3), .second, .val (.int p4), .val (.int p5), .val (.long vj4), .second, .val (.long vj8), .second, .unset, .unset, .unset, .unset, .unset, .unset, .unset, .unset, .unset, .unset, .unset] [(.long (f1 vj12 q3)), (.long vj10)]))
  generalize he14 : (f1 vj12 q3) = vj14
  show WP p e below _ (T13.setTop (mkF m 39 #[.val (.long q1), .second, .val (.long q2), .second, .val (.long q3), .second, .val (.int p4), .val (.int p5), .val (.long vj4), .second, .val (.long vj8), .second, .unset, .unset, .unset, .unset, .unset, .unset, .unset, .unset, .unset, .unset, .unset] [(.long vj14), (.long vj10)]))
  obtain ⟨_, _, ⟨T15, L15, k15, n15⟩, -, X15, ⟨Lc15, hQ15, l15, y15, z15⟩, st15⟩ := Jvm.LawKit.callS X13 hx (y := (⟨"java/lang/Math", "max", "(JJ)J"⟩ : MethodName)) hown (mvT hZ (hw _ (List.mem_of_getElem? (i := 4) rfl))) (mvT hZ (hw _ (List.mem_of_getElem? (i := 5) rfl))) (mvT hZ (hw _ (List.mem_of_getElem? (i := 2) rfl))) (mvT hZ (hw _ (List.mem_of_getElem? (i := 6) rfl))) (by decide) (backOf (W := 0) (rm2 l Z a0 hw [] vj10 vj14 h0 n0) hZ (hw _ (List.mem_of_getElem? (i := 6) rfl)) (hw _ (List.mem_of_getElem? (i := 2) rfl)) (by decide) (by decide)) (g := (mkF m 39 #[.val (.long q1), .second, .val (.long q2), .second, .val (.long q3), .second, .val (.int p4), .val (.int p5), .val (.long vj4), .second, .val (.long vj8), .second, .unset, .unset, .unset, .unset, .unset, .unset, .unset, .unset, .unset, .unset, .unset] [(.long vj14), (.long vj10)])) rfl (by rw [hml]; rfl) (argsL := [(.long vj10), (.long vj14)]) (rest := []) (lenOf pd_4 rfl) rfl (by show 2 * 0 + _ ≤ _; exact Nat.le_of_eq rfl) (hb hby at_39) (fun _ _ => ⟨rfl, e13, (by decide : 0 + 0 ≤ _), (by decide : 0 + 0 ≤ _)⟩)
  dsimp only [Pt.U, Pt.locs, Pt.cells, Pt.slots] at X15 l15 y15 z15 st15 hQ15
  subst l15 y15 z15
  obtain ⟨rfl, N15q, e15⟩ := hQ15
  have N15 := Fr.app N13 N15q
  replace X15 : Stand p l e room_1 s m _ below meth c T15 _ 0 0 := X15
  refine own_go st15 ?_
  show WP p e below _ (T15.setTop (mkF m 42 #[.val (.long q1), .second, .val (.long q2), .second, .val (.long q3), .second, .val (.int p4), .val (.int p5), .val (.long vj4), .second, .val (.long vj8), .second, .unset, .unset, .unset, .unset, .unset, .unset, .unset, .unset, .unset, .unset, .unset] [(.long (f2 vj10 vj14))]))
  generalize he16 : (f2 vj10 vj14) = vj16
  show WP p e below _ (T15.setTop (mkF m 42 #[.val (.long q1), .second, .val (.long q2), .second, .val (.long q3), .second, .val (.int p4), .val (.int p5), .val (.long vj4), .second, .val (.long vj8), .second, .unset, .unset, .unset, .unset, .unset, .unset, .unset, .unset, .unset, .unset, .unset] [(.long vj16)]))
  refine own_go (fun t_ k => XS.lstore X15.here hx rfl (hb hby at_42) rfl (l' := #[.val (.long q1), .second, .val (.long q2), .second, .val (.long q3), .second, .val (.int p4), .val (.int p5), .val (.long vj4), .second, .val (.long vj8), .second, .val (.long vj16), .second, .unset, .unset, .unset, .unset, .unset, .unset, .unset, .unset, .unset]) rfl k) ?_
  have hlo : f1 (f1 q1 q2) q3 = vj4 := by rw [← he4, ← he2]
  have hhi : f2 (f2 q1 q2) q3 = vj8 := by rw [← he8, ← he6]
  have hmid : f2 (f1 q1 q2) (f1 (f2 q1 q2) q3) = vj16 := by rw [← he16, ← he10, ← he14, ← he12]
  show WP p e below _ (T15.setTop (mkF m 44 #[.val (.long q1), .second, .val (.long q2), .second, .val (.long q3), .second, .val (.int p4), .val (.int p5), .val (.long vj4), .second, .val (.long vj8), .second, .val (.long vj16), .second, .unset, .unset, .unset, .unset, .unset, .unset, .unset, .unset, .unset] []))
  refine own_go (fun t_ k => XS.iload X15.here hx rfl (hb hby at_44) rfl k) ?_
  show WP p e below _ (T15.setTop (mkF m 46 #[.val (.long q1), .second, .val (.long q2), .second, .val (.long q3), .second, .val (.int p4), .val (.int p5), .val (.long vj4), .second, .val (.long vj8), .second, .val (.long vj16), .second, .unset, .unset, .unset, .unset, .unset, .unset, .unset, .unset, .unset] [(.int p4)]))
  refine own_go (fun t_ k => XS.iconst X15.here hx rfl (hb hby at_46) k) ?_
  show WP p e below _ (T15.setTop (mkF m 47 #[.val (.long q1), .second, .val (.long q2), .second, .val (.long q3), .second, .val (.int p4), .val (.int p5), .val (.long vj4), .second, .val (.long vj8), .second, .val (.long vj16), .second, .unset, .unset, .unset, .unset, .unset, .unset, .unset, .unset, .unset] [(.int (3 : Int32)), (.int p4)]))
  refine own_go (fun t_ k => XS.iand X15.here hx rfl (hb hby at_47) rfl k) ?_
  show WP p e below _ (T15.setTop (mkF m 48 #[.val (.long q1), .second, .val (.long q2), .second, .val (.long q3), .second, .val (.int p4), .val (.int p5), .val (.long vj4), .second, .val (.long vj8), .second, .val (.long vj16), .second, .unset, .unset, .unset, .unset, .unset, .unset, .unset, .unset, .unset] [(.int (p4 &&& (3 : Int32)))]))
  refine own_go (fun t_ k => XS.iconst X15.here hx rfl (hb hby at_48) k) ?_
  show WP p e below _ (T15.setTop (mkF m 49 #[.val (.long q1), .second, .val (.long q2), .second, .val (.long q3), .second, .val (.int p4), .val (.int p5), .val (.long vj4), .second, .val (.long vj8), .second, .val (.long vj16), .second, .unset, .unset, .unset, .unset, .unset, .unset, .unset, .unset, .unset] [(.int (3 : Int32)), (.int (p4 &&& (3 : Int32)))]))
  refine own_go (fun t_ k => iremM X15 hx rfl (hb hby at_49) rfl (by decide) k) ?_
  show WP p e below _ (T15.setTop (mkF m 50 #[.val (.long q1), .second, .val (.long q2), .second, .val (.long q3), .second, .val (.int p4), .val (.int p5), .val (.long vj4), .second, .val (.long vj8), .second, .val (.long vj16), .second, .unset, .unset, .unset, .unset, .unset, .unset, .unset, .unset, .unset] [(.int ((p4 &&& (3 : Int32)) % (3 : Int32)))]))
  refine own_go (fun t_ k => XS.istore X15.here hx rfl (hb hby at_50) rfl (l' := #[.val (.long q1), .second, .val (.long q2), .second, .val (.long q3), .second, .val (.int p4), .val (.int p5), .val (.long vj4), .second, .val (.long vj8), .second, .val (.long vj16), .second, .val (.int ((p4 &&& (3 : Int32)) % (3 : Int32))), .unset, .unset, .unset, .unset, .unset, .unset, .unset, .unset]) rfl k) ?_
  show WP p e below _ (T15.setTop (mkF m 52 #[.val (.long q1), .second, .val (.long q2), .second, .val (.long q3), .second, .val (.int p4), .val (.int p5), .val (.long vj4), .second, .val (.long vj8), .second, .val (.long vj16), .second, .val (.int ((p4 &&& (3 : Int32)) % (3 : Int32))), .unset, .unset, .unset, .unset, .unset, .unset, .unset, .unset] []))
  generalize he17 : ((p4 &&& (3 : Int32)) % (3 : Int32)) = vi17
  show WP p e below _ (T15.setTop (mkF m 52 #[.val (.long q1), .second, .val (.long q2), .second, .val (.long q3), .second, .val (.int p4), .val (.int p5), .val (.long vj4), .second, .val (.long vj8), .second, .val (.long vj16), .second, .val (.int vi17), .unset, .unset, .unset, .unset, .unset, .unset, .unset, .unset] []))
  refine own_go (fun t_ k => XS.iconst X15.here hx rfl (hb hby at_52) k) ?_
  show WP p e below _ (T15.setTop (mkF m 53 #[.val (.long q1), .second, .val (.long q2), .second, .val (.long q3), .second, .val (.int p4), .val (.int p5), .val (.long vj4), .second, .val (.long vj8), .second, .val (.long vj16), .second, .val (.int vi17), .unset, .unset, .unset, .unset, .unset, .unset, .unset, .unset] [(.int (1 : Int32))]))
  refine own_go (fun t_ k => XS.iload X15.here hx rfl (hb hby at_53) rfl k) ?_
  show WP p e below _ (T15.setTop (mkF m 55 #[.val (.long q1), .second, .val (.long q2), .second, .val (.long q3), .second, .val (.int p4), .val (.int p5), .val (.long vj4), .second, .val (.long vj8), .second, .val (.long vj16), .second, .val (.int vi17), .unset, .unset, .unset, .unset, .unset, .unset, .unset, .unset] [(.int p4), (.int (1 : Int32))]))
  refine own_go (fun t_ k => XS.iconst X15.here hx rfl (hb hby at_55) k) ?_
  show WP p e below _ (T15.setTop (mkF m 56 #[.val (.long q1), .second, .val (.long q2), .second, .val (.long q3), .second, .val (.int p4), .val (.int p5), .val (.long vj4), .second, .val (.long vj8), .second, .val (.long vj16), .second, .val (.int vi17), .unset, .unset, .unset, .unset, .unset, .unset, .unset, .unset] [(.int (2 : Int32)), (.int p4), (.int (1 : Int32))]))
  refine own_go (fun t_ k => XS.iushr X15.here hx rfl (hb hby at_56) rfl k) ?_
  show WP p e below _ (T15.setTop (mkF m 57 #[.val (.long q1), .second, .val (.long q2), .second, .val (.long q3), .second, .val (.int p4), .val (.int p5), .val (.long vj4), .second, .val (.long vj8), .second, .val (.long vj16), .second, .val (.int vi17), .unset, .unset, .unset, .unset, .unset, .unset, .unset, .unset] [(.int ((p4.toUInt32 >>> ((2 : Int32) &&& 31).toUInt32).toInt32)), (.int (1 : Int32))]))
  refine own_go (fun t_ k => XS.iconst X15.here hx rfl (hb hby at_57) k) ?_
  show WP p e below _ (T15.setTop (mkF m 58 #[.val (.long q1), .second, .val (.long q2), .second, .val (.long q3), .second, .val (.int p4), .val (.int p5), .val (.long vj4), .second, .val (.long vj8), .second, .val (.long vj16), .second, .val (.int vi17), .unset, .unset, .unset, .unset, .unset, .unset, .unset, .unset] [(.int (1 : Int32)), (.int ((p4.toUInt32 >>> ((2 : Int32) &&& 31).toUInt32).toInt32)), (.int (1 : Int32))]))
  refine own_go (fun t_ k => XS.iand X15.here hx rfl (hb hby at_58) rfl k) ?_
  show WP p e below _ (T15.setTop (mkF m 59 #[.val (.long q1), .second, .val (.long q2), .second, .val (.long q3), .second, .val (.int p4), .val (.int p5), .val (.long vj4), .second, .val (.long vj8), .second, .val (.long vj16), .second, .val (.int vi17), .unset, .unset, .unset, .unset, .unset, .unset, .unset, .unset] [(.int (((p4.toUInt32 >>> ((2 : Int32) &&& 31).toUInt32).toInt32) &&& (1 : Int32))), (.int (1 : Int32))]))
  refine own_go (fun t_ k => XS.iadd X15.here hx rfl (hb hby at_59) rfl k) ?_
  show WP p e below _ (T15.setTop (mkF m 60 #[.val (.long q1), .second, .val (.long q2), .second, .val (.long q3), .second, .val (.int p4), .val (.int p5), .val (.long vj4), .second, .val (.long vj8), .second, .val (.long vj16), .second, .val (.int vi17), .unset, .unset, .unset, .unset, .unset, .unset, .unset, .unset] [(.int ((1 : Int32) + (((p4.toUInt32 >>> ((2 : Int32) &&& 31).toUInt32).toInt32) &&& (1 : Int32))))]))
  refine own_go (fun t_ k => XS.istore X15.here hx rfl (hb hby at_60) rfl (l' := #[.val (.long q1), .second, .val (.long q2), .second, .val (.long q3), .second, .val (.int p4), .val (.int p5), .val (.long vj4), .second, .val (.long vj8), .second, .val (.long vj16), .second, .val (.int vi17), .val (.int ((1 : Int32) + (((p4.toUInt32 >>> ((2 : Int32) &&& 31).toUInt32).toInt32) &&& (1 : Int32)))), .unset, .unset, .unset, .unset, .unset, .unset, .unset]) rfl k) ?_
  show WP p e below _ (T15.setTop (mkF m 62 #[.val (.long q1), .second, .val (.long q2), .second, .val (.long q3), .second, .val (.int p4), .val (.int p5), .val (.long vj4), .second, .val (.long vj8), .second, .val (.long vj16), .second, .val (.int vi17), .val (.int ((1 : Int32) + (((p4.toUInt32 >>> ((2 : Int32) &&& 31).toUInt32).toInt32) &&& (1 : Int32)))), .unset, .unset, .unset, .unset, .unset, .unset, .unset] []))
  generalize he18 : ((1 : Int32) + (((p4.toUInt32 >>> ((2 : Int32) &&& 31).toUInt32).toInt32) &&& (1 : Int32))) = vi18
  show WP p e below _ (T15.setTop (mkF m 62 #[.val (.long q1), .second, .val (.long q2), .second, .val (.long q3), .second, .val (.int p4), .val (.int p5), .val (.long vj4), .second, .val (.long vj8), .second, .val (.long vj16), .second, .val (.int vi17), .val (.int vi18), .unset, .unset, .unset, .unset, .unset, .unset, .unset] []))
  refine own_go (fun t_ k => XS.iload X15.here hx rfl (hb hby at_62) rfl k) ?_
  show WP p e below _ (T15.setTop (mkF m 64 #[.val (.long q1), .second, .val (.long q2), .second, .val (.long q3), .second, .val (.int p4), .val (.int p5), .val (.long vj4), .second, .val (.long vj8), .second, .val (.long vj16), .second, .val (.int vi17), .val (.int vi18), .unset, .unset, .unset, .unset, .unset, .unset, .unset] [(.int p4)]))
  refine own_go (fun t_ k => XS.iconst X15.here hx rfl (hb hby at_64) k) ?_
  show WP p e below _ (T15.setTop (mkF m 65 #[.val (.long q1), .second, .val (.long q2), .second, .val (.long q3), .second, .val (.int p4), .val (.int p5), .val (.long vj4), .second, .val (.long vj8), .second, .val (.long vj16), .second, .val (.int vi17), .val (.int vi18), .unset, .unset, .unset, .unset, .unset, .unset, .unset] [(.int (3 : Int32)), (.int p4)]))
  refine own_go (fun t_ k => XS.iushr X15.here hx rfl (hb hby at_65) rfl k) ?_
  show WP p e below _ (T15.setTop (mkF m 66 #[.val (.long q1), .second, .val (.long q2), .second, .val (.long q3), .second, .val (.int p4), .val (.int p5), .val (.long vj4), .second, .val (.long vj8), .second, .val (.long vj16), .second, .val (.int vi17), .val (.int vi18), .unset, .unset, .unset, .unset, .unset, .unset, .unset] [(.int ((p4.toUInt32 >>> ((3 : Int32) &&& 31).toUInt32).toInt32))]))
  refine own_go (fun t_ k => XS.iconst X15.here hx rfl (hb hby at_66) k) ?_
  show WP p e below _ (T15.setTop (mkF m 67 #[.val (.long q1), .second, .val (.long q2), .second, .val (.long q3), .second, .val (.int p4), .val (.int p5), .val (.long vj4), .second, .val (.long vj8), .second, .val (.long vj16), .second, .val (.int vi17), .val (.int vi18), .unset, .unset, .unset, .unset, .unset, .unset, .unset] [(.int (3 : Int32)), (.int ((p4.toUInt32 >>> ((3 : Int32) &&& 31).toUInt32).toInt32))]))
  refine own_go (fun t_ k => XS.iand X15.here hx rfl (hb hby at_67) rfl k) ?_
  show WP p e below _ (T15.setTop (mkF m 68 #[.val (.long q1), .second, .val (.long q2), .second, .val (.long q3), .second, .val (.int p4), .val (.int p5), .val (.long vj4), .second, .val (.long vj8), .second, .val (.long vj16), .second, .val (.int vi17), .val (.int vi18), .unset, .unset, .unset, .unset, .unset, .unset, .unset] [(.int (((p4.toUInt32 >>> ((3 : Int32) &&& 31).toUInt32).toInt32) &&& (3 : Int32)))]))
  refine own_go (fun t_ k => XS.iconst X15.here hx rfl (hb hby at_68) k) ?_
  show WP p e below _ (T15.setTop (mkF m 69 #[.val (.long q1), .second, .val (.long q2), .second, .val (.long q3), .second, .val (.int p4), .val (.int p5), .val (.long vj4), .second, .val (.long vj8), .second, .val (.long vj16), .second, .val (.int vi17), .val (.int vi18), .unset, .unset, .unset, .unset, .unset, .unset, .unset] [(.int (3 : Int32)), (.int (((p4.toUInt32 >>> ((3 : Int32) &&& 31).toUInt32).toInt32) &&& (3 : Int32)))]))
  refine own_go (fun t_ k => iremM X15 hx rfl (hb hby at_69) rfl (by decide) k) ?_
  show WP p e below _ (T15.setTop (mkF m 70 #[.val (.long q1), .second, .val (.long q2), .second, .val (.long q3), .second, .val (.int p4), .val (.int p5), .val (.long vj4), .second, .val (.long vj8), .second, .val (.long vj16), .second, .val (.int vi17), .val (.int vi18), .unset, .unset, .unset, .unset, .unset, .unset, .unset] [(.int ((((p4.toUInt32 >>> ((3 : Int32) &&& 31).toUInt32).toInt32) &&& (3 : Int32)) % (3 : Int32)))]))
  refine own_go (fun t_ k => XS.istore X15.here hx rfl (hb hby at_70) rfl (l' := #[.val (.long q1), .second, .val (.long q2), .second, .val (.long q3), .second, .val (.int p4), .val (.int p5), .val (.long vj4), .second, .val (.long vj8), .second, .val (.long vj16), .second, .val (.int vi17), .val (.int vi18), .val (.int ((((p4.toUInt32 >>> ((3 : Int32) &&& 31).toUInt32).toInt32) &&& (3 : Int32)) % (3 : Int32))), .unset, .unset, .unset, .unset, .unset, .unset]) rfl k) ?_
  show WP p e below _ (T15.setTop (mkF m 72 #[.val (.long q1), .second, .val (.long q2), .second, .val (.long q3), .second, .val (.int p4), .val (.int p5), .val (.long vj4), .second, .val (.long vj8), .second, .val (.long vj16), .second, .val (.int vi17), .val (.int vi18), .val (.int ((((p4.toUInt32 >>> ((3 : Int32) &&& 31).toUInt32).toInt32) &&& (3 : Int32)) % (3 : Int32))), .unset, .unset, .unset, .unset, .unset, .unset] []))
  generalize he19 : ((((p4.toUInt32 >>> ((3 : Int32) &&& 31).toUInt32).toInt32) &&& (3 : Int32)) % (3 : Int32)) = vi19
  show WP p e below _ (T15.setTop (mkF m 72 #[.val (.long q1), .second, .val (.long q2), .second, .val (.long q3), .second, .val (.int p4), .val (.int p5), .val (.long vj4), .second, .val (.long vj8), .second, .val (.long vj16), .second, .val (.int vi17), .val (.int vi18), .val (.int vi19), .unset, .unset, .unset, .unset, .unset, .unset] []))
  refine own_go (fun t_ k => XS.iload X15.here hx rfl (hb hby at_72) rfl k) ?_
  show WP p e below _ (T15.setTop (mkF m 74 #[.val (.long q1), .second, .val (.long q2), .second, .val (.long q3), .second, .val (.int p4), .val (.int p5), .val (.long vj4), .second, .val (.long vj8), .second, .val (.long vj16), .second, .val (.int vi17), .val (.int vi18), .val (.int vi19), .unset, .unset, .unset, .unset, .unset, .unset] [(.int vi17)]))
  refine own_go (fun t_ k => XS.iload X15.here hx rfl (hb hby at_74) rfl k) ?_
  show WP p e below _ (T15.setTop (mkF m 76 #[.val (.long q1), .second, .val (.long q2), .second, .val (.long q3), .second, .val (.int p4), .val (.int p5), .val (.long vj4), .second, .val (.long vj8), .second, .val (.long vj16), .second, .val (.int vi17), .val (.int vi18), .val (.int vi19), .unset, .unset, .unset, .unset, .unset, .unset] [(.int vi18), (.int vi17)]))
  refine own_go (fun t_ k => XS.iadd X15.here hx rfl (hb hby at_76) rfl k) ?_
  show WP p e below _ (T15.setTop (mkF m 77 #[.val (.long q1), .second, .val (.long q2), .second, .val (.long q3), .second, .val (.int p4), .val (.int p5), .val (.long vj4), .second, .val (.long vj8), .second, .val (.long vj16), .second, .val (.int vi17), .val (.int vi18), .val (.int vi19), .unset, .unset, .unset, .unset, .unset, .unset] [(.int (vi17 + vi18))]))
  refine own_go (fun t_ k => XS.iload X15.here hx rfl (hb hby at_77) rfl k) ?_
  show WP p e below _ (T15.setTop (mkF m 79 #[.val (.long q1), .second, .val (.long q2), .second, .val (.long q3), .second, .val (.int p4), .val (.int p5), .val (.long vj4), .second, .val (.long vj8), .second, .val (.long vj16), .second, .val (.int vi17), .val (.int vi18), .val (.int vi19), .unset, .unset, .unset, .unset, .unset, .unset] [(.int vi19), (.int (vi17 + vi18))]))
  refine own_go (fun t_ k => XS.iadd X15.here hx rfl (hb hby at_79) rfl k) ?_
  show WP p e below _ (T15.setTop (mkF m 80 #[.val (.long q1), .second, .val (.long q2), .second, .val (.long q3), .second, .val (.int p4), .val (.int p5), .val (.long vj4), .second, .val (.long vj8), .second, .val (.long vj16), .second, .val (.int vi17), .val (.int vi18), .val (.int vi19), .unset, .unset, .unset, .unset, .unset, .unset] [(.int ((vi17 + vi18) + vi19))]))
  refine own_go (fun t_ k => XS.istore X15.here hx rfl (hb hby at_80) rfl (l' := #[.val (.long q1), .second, .val (.long q2), .second, .val (.long q3), .second, .val (.int p4), .val (.int p5), .val (.long vj4), .second, .val (.long vj8), .second, .val (.long vj16), .second, .val (.int vi17), .val (.int vi18), .val (.int vi19), .val (.int ((vi17 + vi18) + vi19)), .unset, .unset, .unset, .unset, .unset]) rfl k) ?_
  show WP p e below _ (T15.setTop (mkF m 82 #[.val (.long q1), .second, .val (.long q2), .second, .val (.long q3), .second, .val (.int p4), .val (.int p5), .val (.long vj4), .second, .val (.long vj8), .second, .val (.long vj16), .second, .val (.int vi17), .val (.int vi18), .val (.int vi19), .val (.int ((vi17 + vi18) + vi19)), .unset, .unset, .unset, .unset, .unset] []))
  generalize he20 : ((vi17 + vi18) + vi19) = vi20
  show WP p e below _ (T15.setTop (mkF m 82 #[.val (.long q1), .second, .val (.long q2), .second, .val (.long q3), .second, .val (.int p4), .val (.int p5), .val (.long vj4), .second, .val (.long vj8), .second, .val (.long vj16), .second, .val (.int vi17), .val (.int vi18), .val (.int vi19), .val (.int vi20), .unset, .unset, .unset, .unset, .unset] []))
  obtain ⟨T21, h21, X21, e21, E21, A21, D21, -, st21⟩ := newO X15 hx hZ hown (hw _ (List.mem_of_getElem? (i := 7) rfl)) (hw _ (List.mem_of_getElem? (i := 8) rfl)) (hw _ (List.mem_of_getElem? (i := 9) rfl)) e15 (g := (mkF m 82 #[.val (.long q1), .second, .val (.long q2), .second, .val (.long q3), .second, .val (.int p4), .val (.int p5), .val (.long vj4), .second, .val (.long vj8), .second, .val (.long vj16), .second, .val (.int vi17), .val (.int vi18), .val (.int vi19), .val (.int vi20), .unset, .unset, .unset, .unset, .unset] [])) rfl (hb hby at_82) (by decide) (by decide)
  obtain ⟨b21, g21⟩ : ∃ z, z = Array.size h0 := ⟨_, rfl⟩
  rw [← g21] at A21 D21 st21
  refine own_go st21 ?_
  have g_b21 : n0 ≤ b21 := Nat.le_trans (Nat.le_trans Z0 (Keep.refl h0 []).1) (Nat.le_of_eq g21.symm)
  have sz_b21 : h0.size ≤ b21 := Nat.le_trans (Keep.refl h0 []).1 (Nat.le_of_eq g21.symm)
  have K21 : Keep h0 h21 [] := (Keep.refl h0 []).ext E21
  have F21_values : Fld Z h21 b21 "com/example/vestry/vestry/Longs" "values" "[J" .null := D21 (Or.inl (hw _ (List.mem_of_getElem? (i := 21) rfl))) (ty := (.array .long)) (by decide)
  have F21_size : Fld Z h21 b21 "com/example/vestry/vestry/Longs" "size" "I" (.int (0 : Int32)) := D21 (Or.inl (hw _ (List.mem_of_getElem? (i := 23) rfl))) (ty := .int) (by decide)
  show WP p e below _ (T21.setTop (mkF m 85 #[.val (.long q1), .second, .val (.long q2), .second, .val (.long q3), .second, .val (.int p4), .val (.int p5), .val (.long vj4), .second, .val (.long vj8), .second, .val (.long vj16), .second, .val (.int vi17), .val (.int vi18), .val (.int vi19), .val (.int vi20), .unset, .unset, .unset, .unset, .unset] [(.ref b21)]))
  refine own_go (fun t_ k => XS.dup X21.here hx rfl (hb hby at_85) rfl rfl k) ?_
  show WP p e below _ (T21.setTop (mkF m 86 #[.val (.long q1), .second, .val (.long q2), .second, .val (.long q3), .second, .val (.int p4), .val (.int p5), .val (.long vj4), .second, .val (.long vj8), .second, .val (.long vj16), .second, .val (.int vi17), .val (.int vi18), .val (.int vi19), .val (.int vi20), .unset, .unset, .unset, .unset, .unset] [(.ref b21), (.ref b21)]))
  obtain ⟨_, _, ⟨T22, L22, k22, n22⟩, -, X22, ⟨Lc22, hQ22, l22, y22, z22⟩, st22⟩ := X21.specialBack hx (y := (⟨"com/example/vestry/vestry/Longs", "<init>", "()V"⟩ : MethodName)) rfl hown (mvT hZ (hw _ (List.mem_of_getElem? (i := 10) rfl))) (mvT hZ (hw _ (List.mem_of_getElem? (i := 11) rfl))) (mvT hZ (hw _ (List.mem_of_getElem? (i := 12) rfl))) (by decide) (backOf (W := 1) (rm_i0 l Z a0 hw [] b21 h21 n0 (Nat.le_trans Z0 K21.1) A21 g_b21 F21_values F21_size) hZ (hw _ (List.mem_of_getElem? (i := 12) rfl)) (hw _ (List.mem_of_getElem? (i := 9) rfl)) (by decide) (by decide)) (g := (mkF m 86 #[.val (.long q1), .second, .val (.long q2), .second, .val (.long q3), .second, .val (.int p4), .val (.int p5), .val (.long vj4), .second, .val (.long vj8), .second, .val (.long vj16), .second, .val (.int vi17), .val (.int vi18), .val (.int vi19), .val (.int vi20), .unset, .unset, .unset, .unset, .unset] [(.ref b21), (.ref b21)])) rfl (by rw [hml]; rfl) (Steps.refl _) (a := b21) (argsL := []) (rest := [(.ref b21)]) (lenOf pd_5 rfl) rfl (by show 2 * 0 + _ ≤ _; exact Nat.le_of_eq rfl) (hb hby at_86) (fun _ _ => ⟨rfl, e21, (by decide : 1 + 1 ≤ _), (by decide : 2 + 1024 ≤ _)⟩)
  dsimp only [Pt.U, Pt.locs, Pt.cells, Pt.slots] at X22 l22 y22 z22 st22 hQ22
  subst l22 y22 z22
  obtain ⟨rfl, N22q, K22c, t22, kk22, gt22, st22', P22⟩ := hQ22
  have N22 := Fr.app N15 N22q
  replace X22 : Stand p l e room_1 s m _ below meth c T22 _ 2 1026 := X22
  refine own_go (fun t_ k => st22.trans k) ?_
  have K22 : Keep h0 T22.heap [] := K21.trans K22c (allS (Or.inr sz_b21) all0)
  have szt22 : h0.size ≤ t22 := Nat.le_trans K21.1 st22'
  show WP p e below _ (T22.setTop (mkF m 89 #[.val (.long q1), .second, .val (.long q2), .second, .val (.long q3), .second, .val (.int p4), .val (.int p5), .val (.long vj4), .second, .val (.long vj8), .second, .val (.long vj16), .second, .val (.int vi17), .val (.int vi18), .val (.int vi19), .val (.int vi20), .unset, .unset, .unset, .unset, .unset] [(.ref b21)]))
  refine own_go (fun t_ k => XS.astore X22.here hx rfl (hb hby at_89) rfl rfl (l' := #[.val (.long q1), .second, .val (.long q2), .second, .val (.long q3), .second, .val (.int p4), .val (.int p5), .val (.long vj4), .second, .val (.long vj8), .second, .val (.long vj16), .second, .val (.int vi17), .val (.int vi18), .val (.int vi19), .val (.int vi20), .val (.ref b21), .unset, .unset, .unset, .unset]) rfl k) ?_
  show WP p e below _ (T22.setTop (mkF m 91 #[.val (.long q1), .second, .val (.long q2), .second, .val (.long q3), .second, .val (.int p4), .val (.int p5), .val (.long vj4), .second, .val (.long vj8), .second, .val (.long vj16), .second, .val (.int vi17), .val (.int vi18), .val (.int vi19), .val (.int vi20), .val (.ref b21), .unset, .unset, .unset, .unset] []))
  refine own_go (fun t_ k => XS.iload X22.here hx rfl (hb hby at_91) rfl k) ?_
  show WP p e below _ (T22.setTop (mkF m 93 #[.val (.long q1), .second, .val (.long q2), .second, .val (.long q3), .second, .val (.int p4), .val (.int p5), .val (.long vj4), .second, .val (.long vj8), .second, .val (.long vj16), .second, .val (.int vi17), .val (.int vi18), .val (.int vi19), .val (.int vi20), .val (.ref b21), .unset, .unset, .unset, .unset] [(.int vi17)]))
  have J25 : ∀ (T25 : State) (ls25 : List Loc) (X25 : Stand p l e room_1 s m #[(.long q1), (.long q2), (.long q3), (.int p4), (.int p5)] below meth c T25 ls25 2 1026) (N25 : Fr n0 ls25) (hj25 : Heap) (Kj25 : Keep h0 hj25 []) (xs25 : List Int64) (hx25 : xs25 = (if (0 : Int32) < vi17 then [vj4] else ([] : List Int64))) (hlj25 : xs25.length ≤ 2) (Pj25 : LG Z hj25 b21 t22 kk22 xs25) (e25 : T25.heap = hj25), WP p e below (GG (Q0 n0) s room_1.cells room_1.slots) (T25.setTop (mkF m 103 #[.val (.long q1), .second, .val (.long q2), .second, .val (.long q3), .second, .val (.int p4), .val (.int p5), .val (.long vj4), .second, .val (.long vj8), .second, .val (.long vj16), .second, .val (.int vi17), .val (.int vi18), .val (.int vi19), .val (.int vi20), .val (.ref b21), .unset, .unset, .unset, .unset] [])) := by
    intro T25 ls25 X25 N25 hj25 Kj25 xs25 hx25 hlj25 Pj25 e25
    show WP p e below _ (T25.setTop (mkF m 103 #[.val (.long q1), .second, .val (.long q2), .second, .val (.long q3), .second, .val (.int p4), .val (.int p5), .val (.long vj4), .second, .val (.long vj8), .second, .val (.long vj16), .second, .val (.int vi17), .val (.int vi18), .val (.int vi19), .val (.int vi20), .val (.ref b21), .unset, .unset, .unset, .unset] []))
    refine own_go (fun t_ k => XS.iload X25.here hx rfl (hb hby at_103) rfl k) ?_
    show WP p e below _ (T25.setTop (mkF m 105 #[.val (.long q1), .second, .val (.long q2), .second, .val (.long q3), .second, .val (.int p4), .val (.int p5), .val (.long vj4), .second, .val (.long vj8), .second, .val (.long vj16), .second, .val (.int vi17), .val (.int vi18), .val (.int vi19), .val (.int vi20), .val (.ref b21), .unset, .unset, .unset, .unset] [(.int vi17)]))
    refine own_go (fun t_ k => XS.iconst X25.here hx rfl (hb hby at_105) k) ?_
    show WP p e below _ (T25.setTop (mkF m 106 #[.val (.long q1), .second, .val (.long q2), .second, .val (.long q3), .second, .val (.int p4), .val (.int p5), .val (.long vj4), .second, .val (.long vj8), .second, .val (.long vj16), .second, .val (.int vi17), .val (.int vi18), .val (.int vi19), .val (.int vi20), .val (.ref b21), .unset, .unset, .unset, .unset] [(.int (1 : Int32)), (.int vi17)]))
    have J28 : ∀ (T28 : State) (ls28 : List Loc) (X28 : Stand p l e room_1 s m #[(.long q1), (.long q2), (.long q3), (.int p4), (.int p5)] below meth c T28 ls28 2 1026) (N28 : Fr n0 ls28) (hj28 : Heap) (Kj28 : Keep h0 hj28 []) (xs28 : List Int64) (hx28 : xs28 = (if (1 : Int32) < vi17 then (xs25 ++ [vj4]) else xs25)) (hlj28 : xs28.length ≤ 4) (Pj28 : LG Z hj28 b21 t22 kk22 xs28) (e28 : T28.heap = hj28), WP p e below (GG (Q0 n0) s room_1.cells room_1.slots) (T28.setTop (mkF m 116 #[.val (.long q1), .second, .val (.long q2), .second, .val (.long q3), .second, .val (.int p4), .val (.int p5), .val (.long vj4), .second, .val (.long vj8), .second, .val (.long vj16), .second, .val (.int vi17), .val (.int vi18), .val (.int vi19), .val (.int vi20), .val (.ref b21), .unset, .unset, .unset, .unset] [])) := by
      intro T28 ls28 X28 N28 hj28 Kj28 xs28 hx28 hlj28 Pj28 e28
      show WP p e below _ (T28.setTop (mkF m 116 #[.val (.long q1), .second, .val (.long q2), .second, .val (.long q3), .second, .val (.int p4), .val (.int p5), .val (.long vj4), .second, .val (.long vj8), .second, .val (.long vj16), .second, .val (.int vi17), .val (.int vi18), .val (.int vi19), .val (.int vi20), .val (.ref b21), .unset, .unset, .unset, .unset] []))
      refine own_go (fun t_ k => XS.aload X28.here hx rfl (hb hby at_116) rfl rfl k) ?_
      show WP p e below _ (T28.setTop (mkF m 118 #[.val (.long q1), .second, .val (.long q2), .second, .val (.long q3), .second, .val (.int p4), .val (.int p5), .val (.long vj4), .second, .val (.long vj8), .second, .val (.long vj16), .second, .val (.int vi17), .val (.int vi18), .val (.int vi19), .val (.int vi20), .val (.ref b21), .unset, .unset, .unset, .unset] [(.ref b21)]))
      refine own_go (fun t_ k => XS.lload X28.here hx rfl (hb hby at_118) rfl k) ?_
      show WP p e below _ (T28.setTop (mkF m 120 #[.val (.long q1), .second, .val (.long q2), .second, .val (.long q3), .second, .val (.int p4), .val (.int p5), .val (.long vj4), .second, .val (.long vj8), .second, .val (.long vj16), .second, .val (.int vi17), .val (.int vi18), .val (.int vi19), .val (.int vi20), .val (.ref b21), .unset, .unset, .unset, .unset] [(.long vj16), (.ref b21)]))
      obtain ⟨cq29, kq29, q29a, q29b, q29c⟩ := isOf (T := T28) hZ e28 Pj28.1
      obtain ⟨_, _, ⟨T29, L29, k29, n29⟩, -, X29, ⟨Lc29, hQ29, l29, y29, z29⟩, st29⟩ := X28.virtualBack hx (y := (⟨"com/example/vestry/vestry/Longs", "add", "(J)V"⟩ : MethodName)) (z := (⟨"com/example/vestry/vestry/Longs", "add", "(J)V"⟩ : MethodName)) hown (mvT hZ (hw _ (List.mem_of_getElem? (i := 24) rfl))) (mvT hZ (hw _ (List.mem_of_getElem? (i := 25) rfl))) (notFace_of_selects (args := #[]) (mvT hZ (hw _ (List.mem_of_getElem? (i := 27) rfl)))) (mvT hZ (hw _ (List.mem_of_getElem? (i := 27) rfl))) (mvT hZ (hw _ (List.mem_of_getElem? (i := 26) rfl))) (by decide) (backOf (W := 0) (rm_add l Z a0 hw [] b21 vj16 t22 kk22 xs28 hj28 n0 Pj28 g_b21 gt22 (by first | decide | omega | (simp only [List.length_append, List.length_cons, List.length_nil]; omega))) hZ (hw _ (List.mem_of_getElem? (i := 28) rfl)) (hw _ (List.mem_of_getElem? (i := 9) rfl)) (by decide) (by decide)) q29a q29c (g := (mkF m 120 #[.val (.long q1), .second, .val (.long q2), .second, .val (.long q3), .second, .val (.int p4), .val (.int p5), .val (.long vj4), .second, .val (.long vj8), .second, .val (.long vj16), .second, .val (.int vi17), .val (.int vi18), .val (.int vi19), .val (.int vi20), .val (.ref b21), .unset, .unset, .unset, .unset] [(.long vj16), (.ref b21)])) rfl (by rw [hml]; rfl) (Steps.refl _) (argsL := [(.long vj16)]) (rest := []) (lenOf pd_6 rfl) rfl (by show 2 * 0 + _ ≤ _; exact Nat.le_of_eq rfl) (hb hby at_120) (fun _ _ => ⟨rfl, e28, (by decide : 2 + 0 ≤ _), (by decide : 1026 + 0 ≤ _)⟩)
      dsimp only [Pt.U, Pt.locs, Pt.cells, Pt.slots] at X29 l29 y29 z29 st29 hQ29
      subst l29 y29 z29
      obtain ⟨rfl, N29q, K29c, P29⟩ := hQ29
      have N29 := Fr.app N28 N29q
      replace X29 : Stand p l e room_1 s m _ below meth c T29 _ 2 1026 := X29
      refine own_go (fun t_ k => st29.trans k) ?_
      have K29 : Keep h0 T29.heap [] := Kj28.trans K29c (allS (Or.inr sz_b21) (allS (Or.inr szt22) all0))
      replace P29 : LG Z T29.heap b21 t22 kk22 (xs28 ++ [vj16]) := P29
      show WP p e below _ (T29.setTop (mkF m 123 #[.val (.long q1), .second, .val (.long q2), .second, .val (.long q3), .second, .val (.int p4), .val (.int p5), .val (.long vj4), .second, .val (.long vj8), .second, .val (.long vj16), .second, .val (.int vi17), .val (.int vi18), .val (.int vi19), .val (.int vi20), .val (.ref b21), .unset, .unset, .unset, .unset] []))
      refine own_go (fun t_ k => XS.iload X29.here hx rfl (hb hby at_123) rfl k) ?_
      show WP p e below _ (T29.setTop (mkF m 125 #[.val (.long q1), .second, .val (.long q2), .second, .val (.long q3), .second, .val (.int p4), .val (.int p5), .val (.long vj4), .second, .val (.long vj8), .second, .val (.long vj16), .second, .val (.int vi17), .val (.int vi18), .val (.int vi19), .val (.int vi20), .val (.ref b21), .unset, .unset, .unset, .unset] [(.int vi18)]))
      refine own_go (fun t_ k => XS.iconst X29.here hx rfl (hb hby at_125) k) ?_
      show WP p e below _ (T29.setTop (mkF m 126 #[.val (.long q1), .second, .val (.long q2), .second, .val (.long q3), .second, .val (.int p4), .val (.int p5), .val (.long vj4), .second, .val (.long vj8), .second, .val (.long vj16), .second, .val (.int vi17), .val (.int vi18), .val (.int vi19), .val (.int vi20), .val (.ref b21), .unset, .unset, .unset, .unset] [(.int (1 : Int32)), (.int vi18)]))
      have J32 : ∀ (T32 : State) (ls32 : List Loc) (X32 : Stand p l e room_1 s m #[(.long q1), (.long q2), (.long q3), (.int p4), (.int p5)] below meth c T32 ls32 2 1026) (N32 : Fr n0 ls32) (hj32 : Heap) (Kj32 : Keep h0 hj32 []) (xs32 : List Int64) (hx32 : xs32 = (if (1 : Int32) < vi18 then ((xs28 ++ [vj16]) ++ [vj16]) else (xs28 ++ [vj16]))) (hlj32 : xs32.length ≤ 6) (Pj32 : LG Z hj32 b21 t22 kk22 xs32) (e32 : T32.heap = hj32), WP p e below (GG (Q0 n0) s room_1.cells room_1.slots) (T32.setTop (mkF m 136 #[.val (.long q1), .second, .val (.long q2), .second, .val (.long q3), .second, .val (.int p4), .val (.int p5), .val (.long vj4), .second, .val (.long vj8), .second, .val (.long vj16), .second, .val (.int vi17), .val (.int vi18), .val (.int vi19), .val (.int vi20), .val (.ref b21), .unset, .unset, .unset, .unset] [])) := by
        intro T32 ls32 X32 N32 hj32 Kj32 xs32 hx32 hlj32 Pj32 e32
        show WP p e below _ (T32.setTop (mkF m 136 #[.val (.long q1), .second, .val (.long q2), .second, .val (.long q3), .second, .val (.int p4), .val (.int p5), .val (.long vj4), .second, .val (.long vj8), .second, .val (.long vj16), .second, .val (.int vi17), .val (.int vi18), .val (.int vi19), .val (.int vi20), .val (.ref b21), .unset, .unset, .unset, .unset] []))
        refine own_go (fun t_ k => XS.iload X32.here hx rfl (hb hby at_136) rfl k) ?_
        show WP p e below _ (T32.setTop (mkF m 138 #[.val (.long q1), .second, .val (.long q2), .second, .val (.long q3), .second, .val (.int p4), .val (.int p5), .val (.long vj4), .second, .val (.long vj8), .second, .val (.long vj16), .second, .val (.int vi17), .val (.int vi18), .val (.int vi19), .val (.int vi20), .val (.ref b21), .unset, .unset, .unset, .unset] [(.int vi19)]))
        have J35 : ∀ (T35 : State) (ls35 : List Loc) (X35 : Stand p l e room_1 s m #[(.long q1), (.long q2), (.long q3), (.int p4), (.int p5)] below meth c T35 ls35 2 1026) (N35 : Fr n0 ls35) (hj35 : Heap) (Kj35 : Keep h0 hj35 []) (xs35 : List Int64) (hx35 : xs35 = (if (0 : Int32) < vi19 then (xs32 ++ [vj8]) else xs32)) (hlj35 : xs35.length ≤ 8) (Pj35 : LG Z hj35 b21 t22 kk22 xs35) (e35 : T35.heap = hj35), WP p e below (GG (Q0 n0) s room_1.cells room_1.slots) (T35.setTop (mkF m 148 #[.val (.long q1), .second, .val (.long q2), .second, .val (.long q3), .second, .val (.int p4), .val (.int p5), .val (.long vj4), .second, .val (.long vj8), .second, .val (.long vj16), .second, .val (.int vi17), .val (.int vi18), .val (.int vi19), .val (.int vi20), .val (.ref b21), .unset, .unset, .unset, .unset] [])) := by
          intro T35 ls35 X35 N35 hj35 Kj35 xs35 hx35 hlj35 Pj35 e35
          show WP p e below _ (T35.setTop (mkF m 148 #[.val (.long q1), .second, .val (.long q2), .second, .val (.long q3), .second, .val (.int p4), .val (.int p5), .val (.long vj4), .second, .val (.long vj8), .second, .val (.long vj16), .second, .val (.int vi17), .val (.int vi18), .val (.int vi19), .val (.int vi20), .val (.ref b21), .unset, .unset, .unset, .unset] []))
          refine own_go (fun t_ k => XS.iload X35.here hx rfl (hb hby at_148) rfl k) ?_
          show WP p e below _ (T35.setTop (mkF m 150 #[.val (.long q1), .second, .val (.long q2), .second, .val (.long q3), .second, .val (.int p4), .val (.int p5), .val (.long vj4), .second, .val (.long vj8), .second, .val (.long vj16), .second, .val (.int vi17), .val (.int vi18), .val (.int vi19), .val (.int vi20), .val (.ref b21), .unset, .unset, .unset, .unset] [(.int vi19)]))
          refine own_go (fun t_ k => XS.iconst X35.here hx rfl (hb hby at_150) k) ?_
          show WP p e below _ (T35.setTop (mkF m 151 #[.val (.long q1), .second, .val (.long q2), .second, .val (.long q3), .second, .val (.int p4), .val (.int p5), .val (.long vj4), .second, .val (.long vj8), .second, .val (.long vj16), .second, .val (.int vi17), .val (.int vi18), .val (.int vi19), .val (.int vi20), .val (.ref b21), .unset, .unset, .unset, .unset] [(.int (1 : Int32)), (.int vi19)]))
          have J38 : ∀ (T38 : State) (ls38 : List Loc) (X38 : Stand p l e room_1 s m #[(.long q1), (.long q2), (.long q3), (.int p4), (.int p5)] below meth c T38 ls38 2 1026) (N38 : Fr n0 ls38) (hj38 : Heap) (Kj38 : Keep h0 hj38 []) (xs38 : List Int64) (hx38 : xs38 = (if (1 : Int32) < vi19 then (xs35 ++ [vj8]) else xs35)) (hlj38 : xs38.length ≤ 10) (Pj38 : LG Z hj38 b21 t22 kk22 xs38) (e38 : T38.heap = hj38), WP p e below (GG (Q0 n0) s room_1.cells room_1.slots) (T38.setTop (mkF m 161 #[.val (.long q1), .second, .val (.long q2), .second, .val (.long q3), .second, .val (.int p4), .val (.int p5), .val (.long vj4), .second, .val (.long vj8), .second, .val (.long vj16), .second, .val (.int vi17), .val (.int vi18), .val (.int vi19), .val (.int vi20), .val (.ref b21), .unset, .unset, .unset, .unset] [])) := by
            intro T38 ls38 X38 N38 hj38 Kj38 xs38 hx38 hlj38 Pj38 e38
            show WP p e below _ (T38.setTop (mkF m 161 #[.val (.long q1), .second, .val (.long q2), .second, .val (.long q3), .second, .val (.int p4), .val (.int p5), .val (.long vj4), .second, .val (.long vj8), .second, .val (.long vj16), .second, .val (.int vi17), .val (.int vi18), .val (.int vi19), .val (.int vi20), .val (.ref b21), .unset, .unset, .unset, .unset] []))
            refine own_go (fun t_ k => XS.iload X38.here hx rfl (hb hby at_161) rfl k) ?_
            show WP p e below _ (T38.setTop (mkF m 163 #[.val (.long q1), .second, .val (.long q2), .second, .val (.long q3), .second, .val (.int p4), .val (.int p5), .val (.long vj4), .second, .val (.long vj8), .second, .val (.long vj16), .second, .val (.int vi17), .val (.int vi18), .val (.int vi19), .val (.int vi20), .val (.ref b21), .unset, .unset, .unset, .unset] [(.int p5)]))
            refine own_go (fun t_ k => X38.ldcInt hx hown (mvT hZ (hw _ (List.mem_of_getElem? (i := 29) rfl))) (g := (mkF m 163 #[.val (.long q1), .second, .val (.long q2), .second, .val (.long q3), .second, .val (.int p4), .val (.int p5), .val (.long vj4), .second, .val (.long vj8), .second, .val (.long vj16), .second, .val (.int vi17), .val (.int vi18), .val (.int vi19), .val (.int vi20), .val (.ref b21), .unset, .unset, .unset, .unset] [(.int p5)])) rfl (hb hby at_163) _ k) ?_
            show WP p e below _ (T38.setTop (mkF m 165 #[.val (.long q1), .second, .val (.long q2), .second, .val (.long q3), .second, .val (.int p4), .val (.int p5), .val (.long vj4), .second, .val (.long vj8), .second, .val (.long vj16), .second, .val (.int vi17), .val (.int vi18), .val (.int vi19), .val (.int vi20), .val (.ref b21), .unset, .unset, .unset, .unset] [(.int (2147483647 : Int32)), (.int p5)]))
            refine own_go (fun t_ k => XS.iand X38.here hx rfl (hb hby at_165) rfl k) ?_
            show WP p e below _ (T38.setTop (mkF m 166 #[.val (.long q1), .second, .val (.long q2), .second, .val (.long q3), .second, .val (.int p4), .val (.int p5), .val (.long vj4), .second, .val (.long vj8), .second, .val (.long vj16), .second, .val (.int vi17), .val (.int vi18), .val (.int vi19), .val (.int vi20), .val (.ref b21), .unset, .unset, .unset, .unset] [(.int (p5 &&& (2147483647 : Int32)))]))
            refine own_go (fun t_ k => XS.iload X38.here hx rfl (hb hby at_166) rfl k) ?_
            show WP p e below _ (T38.setTop (mkF m 168 #[.val (.long q1), .second, .val (.long q2), .second, .val (.long q3), .second, .val (.int p4), .val (.int p5), .val (.long vj4), .second, .val (.long vj8), .second, .val (.long vj16), .second, .val (.int vi17), .val (.int vi18), .val (.int vi19), .val (.int vi20), .val (.ref b21), .unset, .unset, .unset, .unset] [(.int vi20), (.int (p5 &&& (2147483647 : Int32)))]))
            refine own_go (fun t_ k => iremM X38 hx rfl (hb hby at_168) rfl (own_nz he17 he18 he19 he20) k) ?_
            show WP p e below _ (T38.setTop (mkF m 169 #[.val (.long q1), .second, .val (.long q2), .second, .val (.long q3), .second, .val (.int p4), .val (.int p5), .val (.long vj4), .second, .val (.long vj8), .second, .val (.long vj16), .second, .val (.int vi17), .val (.int vi18), .val (.int vi19), .val (.int vi20), .val (.ref b21), .unset, .unset, .unset, .unset] [(.int ((p5 &&& (2147483647 : Int32)) % vi20))]))
            refine own_go (fun t_ k => XS.istore X38.here hx rfl (hb hby at_169) rfl (l' := #[.val (.long q1), .second, .val (.long q2), .second, .val (.long q3), .second, .val (.int p4), .val (.int p5), .val (.long vj4), .second, .val (.long vj8), .second, .val (.long vj16), .second, .val (.int vi17), .val (.int vi18), .val (.int vi19), .val (.int vi20), .val (.ref b21), .val (.int ((p5 &&& (2147483647 : Int32)) % vi20)), .unset, .unset, .unset]) rfl k) ?_
            show WP p e below _ (T38.setTop (mkF m 171 #[.val (.long q1), .second, .val (.long q2), .second, .val (.long q3), .second, .val (.int p4), .val (.int p5), .val (.long vj4), .second, .val (.long vj8), .second, .val (.long vj16), .second, .val (.int vi17), .val (.int vi18), .val (.int vi19), .val (.int vi20), .val (.ref b21), .val (.int ((p5 &&& (2147483647 : Int32)) % vi20)), .unset, .unset, .unset] []))
            generalize he39 : ((p5 &&& (2147483647 : Int32)) % vi20) = vi39
            show WP p e below _ (T38.setTop (mkF m 171 #[.val (.long q1), .second, .val (.long q2), .second, .val (.long q3), .second, .val (.int p4), .val (.int p5), .val (.long vj4), .second, .val (.long vj8), .second, .val (.long vj16), .second, .val (.int vi17), .val (.int vi18), .val (.int vi19), .val (.int vi20), .val (.ref b21), .val (.int vi39), .unset, .unset, .unset] []))
            refine own_go (fun t_ k => XS.iload X38.here hx rfl (hb hby at_171) rfl k) ?_
            show WP p e below _ (T38.setTop (mkF m 173 #[.val (.long q1), .second, .val (.long q2), .second, .val (.long q3), .second, .val (.int p4), .val (.int p5), .val (.long vj4), .second, .val (.long vj8), .second, .val (.long vj16), .second, .val (.int vi17), .val (.int vi18), .val (.int vi19), .val (.int vi20), .val (.ref b21), .val (.int vi39), .unset, .unset, .unset] [(.int vi39)]))
            refine own_go (fun t_ k => XS.iload X38.here hx rfl (hb hby at_173) rfl k) ?_
            show WP p e below _ (T38.setTop (mkF m 175 #[.val (.long q1), .second, .val (.long q2), .second, .val (.long q3), .second, .val (.int p4), .val (.int p5), .val (.long vj4), .second, .val (.long vj8), .second, .val (.long vj16), .second, .val (.int vi17), .val (.int vi18), .val (.int vi19), .val (.int vi20), .val (.ref b21), .val (.int vi39), .unset, .unset, .unset] [(.int vi17), (.int vi39)]))
            have J42 : ∀ (T42 : State) (ls42 : List Loc) (X42 : Stand p l e room_1 s m #[(.long q1), (.long q2), (.long q3), (.int p4), (.int p5)] below meth c T42 ls42 2 1026) (N42 : Fr n0 ls42) (e42 : T42.heap = hj38) (zz41_L20 : Int64) (hzz41_L20 : zz41_L20 = (if vi39 < vi17 then vj4 else (if vi39 < (vi17 + vi18) then vj16 else vj8))), WP p e below (GG (Q0 n0) s room_1.cells room_1.slots) (T42.setTop (mkF m 206 #[.val (.long q1), .second, .val (.long q2), .second, .val (.long q3), .second, .val (.int p4), .val (.int p5), .val (.long vj4), .second, .val (.long vj8), .second, .val (.long vj16), .second, .val (.int vi17), .val (.int vi18), .val (.int vi19), .val (.int vi20), .val (.ref b21), .val (.int vi39), .val (.long zz41_L20), .second, .unset] [])) := by
              intro T42 ls42 X42 N42 e42 zz41_L20 hzz41_L20
              show WP p e below _ (T42.setTop (mkF m 206 #[.val (.long q1), .second, .val (.long q2), .second, .val (.long q3), .second, .val (.int p4), .val (.int p5), .val (.long vj4), .second, .val (.long vj8), .second, .val (.long vj16), .second, .val (.int vi17), .val (.int vi18), .val (.int vi19), .val (.int vi20), .val (.ref b21), .val (.int vi39), .val (.long zz41_L20), .second, .unset] []))
              refine own_go (fun t_ k => XS.lload X42.here hx rfl (hb hby at_206) rfl k) ?_
              show WP p e below _ (T42.setTop (mkF m 208 #[.val (.long q1), .second, .val (.long q2), .second, .val (.long q3), .second, .val (.int p4), .val (.int p5), .val (.long vj4), .second, .val (.long vj8), .second, .val (.long vj16), .second, .val (.int vi17), .val (.int vi18), .val (.int vi19), .val (.int vi20), .val (.ref b21), .val (.int vi39), .val (.long zz41_L20), .second, .unset] [(.long vj4)]))
              refine own_go (fun t_ k => XS.lload X42.here hx rfl (hb hby at_208) rfl k) ?_
              show WP p e below _ (T42.setTop (mkF m 210 #[.val (.long q1), .second, .val (.long q2), .second, .val (.long q3), .second, .val (.int p4), .val (.int p5), .val (.long vj4), .second, .val (.long vj8), .second, .val (.long vj16), .second, .val (.int vi17), .val (.int vi18), .val (.int vi19), .val (.int vi20), .val (.ref b21), .val (.int vi39), .val (.long zz41_L20), .second, .unset] [(.long zz41_L20), (.long vj4)]))
              refine own_go (fun t_ k => XS.lcmp X42.here hx rfl (hb hby at_210) rfl k) ?_
              show WP p e below _ (T42.setTop (mkF m 211 #[.val (.long q1), .second, .val (.long q2), .second, .val (.long q3), .second, .val (.int p4), .val (.int p5), .val (.long vj4), .second, .val (.long vj8), .second, .val (.long vj16), .second, .val (.int vi17), .val (.int vi18), .val (.int vi19), .val (.int vi20), .val (.ref b21), .val (.int vi39), .val (.long zz41_L20), .second, .unset] [(.int (lcmpW vj4 zz41_L20))]))
              have J45 : ∀ (T45 : State) (ls45 : List Loc) (X45 : Stand p l e room_1 s m #[(.long q1), (.long q2), (.long q3), (.int p4), (.int p5)] below meth c T45 ls45 2 1026) (N45 : Fr n0 ls45) (e45 : T45.heap = hj38) (z44_S0 : Int32) (hz44_S0 : z44_S0 = (if vj4 < zz41_L20 then vi17 else (0 : Int32))), WP p e below (GG (Q0 n0) s room_1.cells room_1.slots) (T45.setTop (mkF m 220 #[.val (.long q1), .second, .val (.long q2), .second, .val (.long q3), .second, .val (.int p4), .val (.int p5), .val (.long vj4), .second, .val (.long vj8), .second, .val (.long vj16), .second, .val (.int vi17), .val (.int vi18), .val (.int vi19), .val (.int vi20), .val (.ref b21), .val (.int vi39), .val (.long zz41_L20), .second, .unset] [(.int z44_S0)])) := by
                intro T45 ls45 X45 N45 e45 z44_S0 hz44_S0
                show WP p e below _ (T45.setTop (mkF m 220 #[.val (.long q1), .second, .val (.long q2), .second, .val (.long q3), .second, .val (.int p4), .val (.int p5), .val (.long vj4), .second, .val (.long vj8), .second, .val (.long vj16), .second, .val (.int vi17), .val (.int vi18), .val (.int vi19), .val (.int vi20), .val (.ref b21), .val (.int vi39), .val (.long zz41_L20), .second, .unset] [(.int z44_S0)]))
                refine own_go (fun t_ k => XS.lload X45.here hx rfl (hb hby at_220) rfl k) ?_
                show WP p e below _ (T45.setTop (mkF m 222 #[.val (.long q1), .second, .val (.long q2), .second, .val (.long q3), .second, .val (.int p4), .val (.int p5), .val (.long vj4), .second, .val (.long vj8), .second, .val (.long vj16), .second, .val (.int vi17), .val (.int vi18), .val (.int vi19), .val (.int vi20), .val (.ref b21), .val (.int vi39), .val (.long zz41_L20), .second, .unset] [(.long vj16), (.int z44_S0)]))
                refine own_go (fun t_ k => XS.lload X45.here hx rfl (hb hby at_222) rfl k) ?_
                show WP p e below _ (T45.setTop (mkF m 224 #[.val (.long q1), .second, .val (.long q2), .second, .val (.long q3), .second, .val (.int p4), .val (.int p5), .val (.long vj4), .second, .val (.long vj8), .second, .val (.long vj16), .second, .val (.int vi17), .val (.int vi18), .val (.int vi19), .val (.int vi20), .val (.ref b21), .val (.int vi39), .val (.long zz41_L20), .second, .unset] [(.long zz41_L20), (.long vj16), (.int z44_S0)]))
                refine own_go (fun t_ k => XS.lcmp X45.here hx rfl (hb hby at_224) rfl k) ?_
                show WP p e below _ (T45.setTop (mkF m 225 #[.val (.long q1), .second, .val (.long q2), .second, .val (.long q3), .second, .val (.int p4), .val (.int p5), .val (.long vj4), .second, .val (.long vj8), .second, .val (.long vj16), .second, .val (.int vi17), .val (.int vi18), .val (.int vi19), .val (.int vi20), .val (.ref b21), .val (.int vi39), .val (.long zz41_L20), .second, .unset] [(.int (lcmpW vj16 zz41_L20)), (.int z44_S0)]))
                have J48 : ∀ (T48 : State) (ls48 : List Loc) (X48 : Stand p l e room_1 s m #[(.long q1), (.long q2), (.long q3), (.int p4), (.int p5)] below meth c T48 ls48 2 1026) (N48 : Fr n0 ls48) (e48 : T48.heap = hj38) (z47_S0 : Int32) (hz47_S0 : z47_S0 = (if vj16 < zz41_L20 then vi18 else (0 : Int32))), WP p e below (GG (Q0 n0) s room_1.cells room_1.slots) (T48.setTop (mkF m 234 #[.val (.long q1), .second, .val (.long q2), .second, .val (.long q3), .second, .val (.int p4), .val (.int p5), .val (.long vj4), .second, .val (.long vj8), .second, .val (.long vj16), .second, .val (.int vi17), .val (.int vi18), .val (.int vi19), .val (.int vi20), .val (.ref b21), .val (.int vi39), .val (.long zz41_L20), .second, .unset] [(.int z47_S0), (.int z44_S0)])) := by
                  intro T48 ls48 X48 N48 e48 z47_S0 hz47_S0
                  show WP p e below _ (T48.setTop (mkF m 234 #[.val (.long q1), .second, .val (.long q2), .second, .val (.long q3), .second, .val (.int p4), .val (.int p5), .val (.long vj4), .second, .val (.long vj8), .second, .val (.long vj16), .second, .val (.int vi17), .val (.int vi18), .val (.int vi19), .val (.int vi20), .val (.ref b21), .val (.int vi39), .val (.long zz41_L20), .second, .unset] [(.int z47_S0), (.int z44_S0)]))
                  refine own_go (fun t_ k => XS.iadd X48.here hx rfl (hb hby at_234) rfl k) ?_
                  show WP p e below _ (T48.setTop (mkF m 235 #[.val (.long q1), .second, .val (.long q2), .second, .val (.long q3), .second, .val (.int p4), .val (.int p5), .val (.long vj4), .second, .val (.long vj8), .second, .val (.long vj16), .second, .val (.int vi17), .val (.int vi18), .val (.int vi19), .val (.int vi20), .val (.ref b21), .val (.int vi39), .val (.long zz41_L20), .second, .unset] [(.int (z44_S0 + z47_S0))]))
                  refine own_go (fun t_ k => XS.lload X48.here hx rfl (hb hby at_235) rfl k) ?_
                  show WP p e below _ (T48.setTop (mkF m 237 #[.val (.long q1), .second, .val (.long q2), .second, .val (.long q3), .second, .val (.int p4), .val (.int p5), .val (.long vj4), .second, .val (.long vj8), .second, .val (.long vj16), .second, .val (.int vi17), .val (.int vi18), .val (.int vi19), .val (.int vi20), .val (.ref b21), .val (.int vi39), .val (.long zz41_L20), .second, .unset] [(.long vj8), (.int (z44_S0 + z47_S0))]))
                  refine own_go (fun t_ k => XS.lload X48.here hx rfl (hb hby at_237) rfl k) ?_
                  show WP p e below _ (T48.setTop (mkF m 239 #[.val (.long q1), .second, .val (.long q2), .second, .val (.long q3), .second, .val (.int p4), .val (.int p5), .val (.long vj4), .second, .val (.long vj8), .second, .val (.long vj16), .second, .val (.int vi17), .val (.int vi18), .val (.int vi19), .val (.int vi20), .val (.ref b21), .val (.int vi39), .val (.long zz41_L20), .second, .unset] [(.long zz41_L20), (.long vj8), (.int (z44_S0 + z47_S0))]))
                  refine own_go (fun t_ k => XS.lcmp X48.here hx rfl (hb hby at_239) rfl k) ?_
                  show WP p e below _ (T48.setTop (mkF m 240 #[.val (.long q1), .second, .val (.long q2), .second, .val (.long q3), .second, .val (.int p4), .val (.int p5), .val (.long vj4), .second, .val (.long vj8), .second, .val (.long vj16), .second, .val (.int vi17), .val (.int vi18), .val (.int vi19), .val (.int vi20), .val (.ref b21), .val (.int vi39), .val (.long zz41_L20), .second, .unset] [(.int (lcmpW vj8 zz41_L20)), (.int (z44_S0 + z47_S0))]))
                  have J51 : ∀ (T51 : State) (ls51 : List Loc) (X51 : Stand p l e room_1 s m #[(.long q1), (.long q2), (.long q3), (.int p4), (.int p5)] below meth c T51 ls51 2 1026) (N51 : Fr n0 ls51) (e51 : T51.heap = hj38) (z50_S0 : Int32) (hz50_S0 : z50_S0 = (if vj8 < zz41_L20 then vi19 else (0 : Int32))), WP p e below (GG (Q0 n0) s room_1.cells room_1.slots) (T51.setTop (mkF m 249 #[.val (.long q1), .second, .val (.long q2), .second, .val (.long q3), .second, .val (.int p4), .val (.int p5), .val (.long vj4), .second, .val (.long vj8), .second, .val (.long vj16), .second, .val (.int vi17), .val (.int vi18), .val (.int vi19), .val (.int vi20), .val (.ref b21), .val (.int vi39), .val (.long zz41_L20), .second, .unset] [(.int z50_S0), (.int (z44_S0 + z47_S0))])) := by
                    intro T51 ls51 X51 N51 e51 z50_S0 hz50_S0
                    show WP p e below _ (T51.setTop (mkF m 249 #[.val (.long q1), .second, .val (.long q2), .second, .val (.long q3), .second, .val (.int p4), .val (.int p5), .val (.long vj4), .second, .val (.long vj8), .second, .val (.long vj16), .second, .val (.int vi17), .val (.int vi18), .val (.int vi19), .val (.int vi20), .val (.ref b21), .val (.int vi39), .val (.long zz41_L20), .second, .unset] [(.int z50_S0), (.int (z44_S0 + z47_S0))]))
                    refine own_go (fun t_ k => XS.iadd X51.here hx rfl (hb hby at_249) rfl k) ?_
                    show WP p e below _ (T51.setTop (mkF m 250 #[.val (.long q1), .second, .val (.long q2), .second, .val (.long q3), .second, .val (.int p4), .val (.int p5), .val (.long vj4), .second, .val (.long vj8), .second, .val (.long vj16), .second, .val (.int vi17), .val (.int vi18), .val (.int vi19), .val (.int vi20), .val (.ref b21), .val (.int vi39), .val (.long zz41_L20), .second, .unset] [(.int ((z44_S0 + z47_S0) + z50_S0))]))
                    refine own_go (fun t_ k => XS.istore X51.here hx rfl (hb hby at_250) rfl (l' := #[.val (.long q1), .second, .val (.long q2), .second, .val (.long q3), .second, .val (.int p4), .val (.int p5), .val (.long vj4), .second, .val (.long vj8), .second, .val (.long vj16), .second, .val (.int vi17), .val (.int vi18), .val (.int vi19), .val (.int vi20), .val (.ref b21), .val (.int vi39), .val (.long zz41_L20), .second, .val (.int ((z44_S0 + z47_S0) + z50_S0))]) rfl k) ?_
                    show WP p e below _ (T51.setTop (mkF m 252 #[.val (.long q1), .second, .val (.long q2), .second, .val (.long q3), .second, .val (.int p4), .val (.int p5), .val (.long vj4), .second, .val (.long vj8), .second, .val (.long vj16), .second, .val (.int vi17), .val (.int vi18), .val (.int vi19), .val (.int vi20), .val (.ref b21), .val (.int vi39), .val (.long zz41_L20), .second, .val (.int ((z44_S0 + z47_S0) + z50_S0))] []))
                    generalize he52 : ((z44_S0 + z47_S0) + z50_S0) = vi52
                    show WP p e below _ (T51.setTop (mkF m 252 #[.val (.long q1), .second, .val (.long q2), .second, .val (.long q3), .second, .val (.int p4), .val (.int p5), .val (.long vj4), .second, .val (.long vj8), .second, .val (.long vj16), .second, .val (.int vi17), .val (.int vi18), .val (.int vi19), .val (.int vi20), .val (.ref b21), .val (.int vi39), .val (.long zz41_L20), .second, .val (.int vi52)] []))
                    refine own_go (fun t_ k => XS.aload X51.here hx rfl (hb hby at_252) rfl rfl k) ?_
                    show WP p e below _ (T51.setTop (mkF m 254 #[.val (.long q1), .second, .val (.long q2), .second, .val (.long q3), .second, .val (.int p4), .val (.int p5), .val (.long vj4), .second, .val (.long vj8), .second, .val (.long vj16), .second, .val (.int vi17), .val (.int vi18), .val (.int vi19), .val (.int vi20), .val (.ref b21), .val (.int vi39), .val (.long zz41_L20), .second, .val (.int vi52)] [(.ref b21)]))
                    refine own_go (fun t_ k => XS.iload X51.here hx rfl (hb hby at_254) rfl k) ?_
                    show WP p e below _ (T51.setTop (mkF m 256 #[.val (.long q1), .second, .val (.long q2), .second, .val (.long q3), .second, .val (.int p4), .val (.int p5), .val (.long vj4), .second, .val (.long vj8), .second, .val (.long vj16), .second, .val (.int vi17), .val (.int vi18), .val (.int vi19), .val (.int vi20), .val (.ref b21), .val (.int vi39), .val (.long zz41_L20), .second, .val (.int vi52)] [(.int vi39), (.ref b21)]))
                    obtain ⟨pa54, pb54, pc54, pd54⟩ := own_pre (hlo) (hhi) (hmid) he17 he18 he19 he20 hx25 hx28 hx32 hx35 hx38 he39
                    obtain ⟨cq53, kq53, q53a, q53b, q53c⟩ := isOf (T := T51) hZ e51 Pj38.1
                    obtain ⟨_, _, ⟨T53, L53, k53, n53⟩, -, X53, ⟨Lc53, hQ53, l53, y53, z53⟩, st53⟩ := X51.virtualBack hx (y := (⟨"com/example/vestry/vestry/Longs", "runStart", "(I)I"⟩ : MethodName)) (z := (⟨"com/example/vestry/vestry/Longs", "runStart", "(I)I"⟩ : MethodName)) hown (mvT hZ (hw _ (List.mem_of_getElem? (i := 30) rfl))) (mvT hZ (hw _ (List.mem_of_getElem? (i := 31) rfl))) (notFace_of_selects (args := #[]) (mvT hZ (hw _ (List.mem_of_getElem? (i := 33) rfl)))) (mvT hZ (hw _ (List.mem_of_getElem? (i := 33) rfl))) (mvT hZ (hw _ (List.mem_of_getElem? (i := 32) rfl))) (by decide) (backOf (W := 0) (rm_rs l Z a0 hw [] b21 vi39 t22 kk22 xs38 hj38 n0 Pj38 pa54 pb54 pc54 pd54) hZ (hw _ (List.mem_of_getElem? (i := 34) rfl)) (hw _ (List.mem_of_getElem? (i := 9) rfl)) (by decide) (by decide)) q53a q53c (g := (mkF m 256 #[.val (.long q1), .second, .val (.long q2), .second, .val (.long q3), .second, .val (.int p4), .val (.int p5), .val (.long vj4), .second, .val (.long vj8), .second, .val (.long vj16), .second, .val (.int vi17), .val (.int vi18), .val (.int vi19), .val (.int vi20), .val (.ref b21), .val (.int vi39), .val (.long zz41_L20), .second, .val (.int vi52)] [(.int vi39), (.ref b21)])) rfl (by rw [hml]; rfl) (Steps.refl _) (argsL := [(.int vi39)]) (rest := []) (lenOf pd_7 rfl) rfl (by show 2 * 0 + _ ≤ _; exact Nat.le_of_eq rfl) (hb hby at_256) (fun _ _ => ⟨rfl, e51, (by decide : 2 + 0 ≤ _), (by decide : 1026 + 0 ≤ _)⟩)
                    dsimp only [Pt.U, Pt.locs, Pt.cells, Pt.slots] at X53 l53 y53 z53 st53 hQ53
                    subst l53 y53 z53
                    obtain ⟨rfl, N53q, e53⟩ := hQ53
                    have N53 := Fr.app N51 N53q
                    replace X53 : Stand p l e room_1 s m _ below meth c T53 _ 2 1026 := X53
                    refine own_go (fun t_ k => st53.trans k) ?_
                    show WP p e below _ (T53.setTop (mkF m 259 #[.val (.long q1), .second, .val (.long q2), .second, .val (.long q3), .second, .val (.int p4), .val (.int p5), .val (.long vj4), .second, .val (.long vj8), .second, .val (.long vj16), .second, .val (.int vi17), .val (.int vi18), .val (.int vi19), .val (.int vi20), .val (.ref b21), .val (.int vi39), .val (.long zz41_L20), .second, .val (.int vi52)] [(.int (rs xs38 vi39))]))
                    generalize he55 : (rs xs38 vi39) = vi55
                    show WP p e below _ (T53.setTop (mkF m 259 #[.val (.long q1), .second, .val (.long q2), .second, .val (.long q3), .second, .val (.int p4), .val (.int p5), .val (.long vj4), .second, .val (.long vj8), .second, .val (.long vj16), .second, .val (.int vi17), .val (.int vi18), .val (.int vi19), .val (.int vi20), .val (.ref b21), .val (.int vi39), .val (.long zz41_L20), .second, .val (.int vi52)] [(.int vi55)]))
                    refine own_go (fun t_ k => XS.iload X53.here hx rfl (hb hby at_259) rfl k) ?_
                    show WP p e below _ (T53.setTop (mkF m 261 #[.val (.long q1), .second, .val (.long q2), .second, .val (.long q3), .second, .val (.int p4), .val (.int p5), .val (.long vj4), .second, .val (.long vj8), .second, .val (.long vj16), .second, .val (.int vi17), .val (.int vi18), .val (.int vi19), .val (.int vi20), .val (.ref b21), .val (.int vi39), .val (.long zz41_L20), .second, .val (.int vi52)] [(.int vi52), (.int vi55)]))
                    have J58 : ∀ (T58 : State) (ls58 : List Loc) (X58 : Stand p l e room_1 s m #[(.long q1), (.long q2), (.long q3), (.int p4), (.int p5)] below meth c T58 ls58 2 1026) (N58 : Fr n0 ls58) (e58 : T58.heap = hj38) (z57_S0 : Int32) (hz57_S0 : z57_S0 = (if vi55 = vi52 then (1 : Int32) else (0 : Int32))), WP p e below (GG (Q0 n0) s room_1.cells room_1.slots) (T58.setTop (mkF m 269 #[.val (.long q1), .second, .val (.long q2), .second, .val (.long q3), .second, .val (.int p4), .val (.int p5), .val (.long vj4), .second, .val (.long vj8), .second, .val (.long vj16), .second, .val (.int vi17), .val (.int vi18), .val (.int vi19), .val (.int vi20), .val (.ref b21), .val (.int vi39), .val (.long zz41_L20), .second, .val (.int vi52)] [(.int z57_S0)])) := by
                      intro T58 ls58 X58 N58 e58 z57_S0 hz57_S0
                      show WP p e below _ (T58.setTop (mkF m 269 #[.val (.long q1), .second, .val (.long q2), .second, .val (.long q3), .second, .val (.int p4), .val (.int p5), .val (.long vj4), .second, .val (.long vj8), .second, .val (.long vj16), .second, .val (.int vi17), .val (.int vi18), .val (.int vi19), .val (.int vi20), .val (.ref b21), .val (.int vi39), .val (.long zz41_L20), .second, .val (.int vi52)] [(.int z57_S0)]))
                      exact own_retZ X58 hx Bd.notSynchronized Bd.returns (hb hby at_269) (by rw [hz57_S0]; (repeat' split); all_goals first | exact Or.inl rfl | exact Or.inr rfl) (show Q0 n0 _ _ _ from ⟨congrArg (fun z => some (Value.int z)) (own_law_1 (q1 := q1) (q2 := q2) (q3 := q3) (p4 := p4) (p5 := p5) he2 he4 he6 he8 he10 he12 he14 he16 he17 he18 he19 he20 hx25 hx28 hx32 hx35 hx38 he39 hzz41_L20 hz44_S0 hz47_S0 hz50_S0 he52 he55 hz57_S0), N58⟩) (by decide) (by decide)
                    by_cases hc261_56 : vi55 = vi52
                    · refine own_go (fun t_ k => XS.icmpNo X53.here hx rfl (hb hby at_261) rfl (teq hc261_56).2 k) ?_
                      show WP p e below _ (T53.setTop (mkF m 264 #[.val (.long q1), .second, .val (.long q2), .second, .val (.long q3), .second, .val (.int p4), .val (.int p5), .val (.long vj4), .second, .val (.long vj8), .second, .val (.long vj16), .second, .val (.int vi17), .val (.int vi18), .val (.int vi19), .val (.int vi20), .val (.ref b21), .val (.int vi39), .val (.long zz41_L20), .second, .val (.int vi52)] []))
                      refine own_go (fun t_ k => XS.iconst X53.here hx rfl (hb hby at_264) k) ?_
                      show WP p e below _ (T53.setTop (mkF m 265 #[.val (.long q1), .second, .val (.long q2), .second, .val (.long q3), .second, .val (.int p4), .val (.int p5), .val (.long vj4), .second, .val (.long vj8), .second, .val (.long vj16), .second, .val (.int vi17), .val (.int vi18), .val (.int vi19), .val (.int vi20), .val (.ref b21), .val (.int vi39), .val (.long zz41_L20), .second, .val (.int vi52)] [(.int (1 : Int32))]))
                      refine own_go (fun t_ k => XS.goto X53.here hx rfl (pc0 := 265) (pc' := 269) rfl (hb hby at_265) (by decide) (by decide) k) ?_
                      show WP p e below _ (T53.setTop (mkF m 269 #[.val (.long q1), .second, .val (.long q2), .second, .val (.long q3), .second, .val (.int p4), .val (.int p5), .val (.long vj4), .second, .val (.long vj8), .second, .val (.long vj16), .second, .val (.int vi17), .val (.int vi18), .val (.int vi19), .val (.int vi20), .val (.ref b21), .val (.int vi39), .val (.long zz41_L20), .second, .val (.int vi52)] [(.int (1 : Int32))]))
                      exact J58 T53 _ X53 N53 e53 _ (by rw [if_pos hc261_56])
                    · refine own_go (fun t_ k => XS.icmpYes X53.here hx rfl (pc0 := 261) (pc' := 268) rfl (hb hby at_261) rfl (feq hc261_56).2 (by decide) (by decide) k) ?_
                      show WP p e below _ (T53.setTop (mkF m 268 #[.val (.long q1), .second, .val (.long q2), .second, .val (.long q3), .second, .val (.int p4), .val (.int p5), .val (.long vj4), .second, .val (.long vj8), .second, .val (.long vj16), .second, .val (.int vi17), .val (.int vi18), .val (.int vi19), .val (.int vi20), .val (.ref b21), .val (.int vi39), .val (.long zz41_L20), .second, .val (.int vi52)] []))
                      refine own_go (fun t_ k => XS.iconst X53.here hx rfl (hb hby at_268) k) ?_
                      show WP p e below _ (T53.setTop (mkF m 269 #[.val (.long q1), .second, .val (.long q2), .second, .val (.long q3), .second, .val (.int p4), .val (.int p5), .val (.long vj4), .second, .val (.long vj8), .second, .val (.long vj16), .second, .val (.int vi17), .val (.int vi18), .val (.int vi19), .val (.int vi20), .val (.ref b21), .val (.int vi39), .val (.long zz41_L20), .second, .val (.int vi52)] [(.int (0 : Int32))]))
                      exact J58 T53 _ X53 N53 e53 _ (by rw [if_neg hc261_56])
                  by_cases hc240_49 : vj8 < zz41_L20
                  · refine own_go (fun t_ k => XS.ifNo X48.here hx rfl (hb hby at_240) rfl ((if0 _ _).trans (tlt ((lw_lt _ _).mpr hc240_49)).2.1) k) ?_
                    show WP p e below _ (T48.setTop (mkF m 243 #[.val (.long q1), .second, .val (.long q2), .second, .val (.long q3), .second, .val (.int p4), .val (.int p5), .val (.long vj4), .second, .val (.long vj8), .second, .val (.long vj16), .second, .val (.int vi17), .val (.int vi18), .val (.int vi19), .val (.int vi20), .val (.ref b21), .val (.int vi39), .val (.long zz41_L20), .second, .unset] [(.int (z44_S0 + z47_S0))]))
                    refine own_go (fun t_ k => XS.iload X48.here hx rfl (hb hby at_243) rfl k) ?_
                    show WP p e below _ (T48.setTop (mkF m 245 #[.val (.long q1), .second, .val (.long q2), .second, .val (.long q3), .second, .val (.int p4), .val (.int p5), .val (.long vj4), .second, .val (.long vj8), .second, .val (.long vj16), .second, .val (.int vi17), .val (.int vi18), .val (.int vi19), .val (.int vi20), .val (.ref b21), .val (.int vi39), .val (.long zz41_L20), .second, .unset] [(.int vi19), (.int (z44_S0 + z47_S0))]))
                    refine own_go (fun t_ k => XS.goto X48.here hx rfl (pc0 := 245) (pc' := 249) rfl (hb hby at_245) (by decide) (by decide) k) ?_
                    show WP p e below _ (T48.setTop (mkF m 249 #[.val (.long q1), .second, .val (.long q2), .second, .val (.long q3), .second, .val (.int p4), .val (.int p5), .val (.long vj4), .second, .val (.long vj8), .second, .val (.long vj16), .second, .val (.int vi17), .val (.int vi18), .val (.int vi19), .val (.int vi20), .val (.ref b21), .val (.int vi39), .val (.long zz41_L20), .second, .unset] [(.int vi19), (.int (z44_S0 + z47_S0))]))
                    exact J51 T48 _ X48 N48 e48 _ (by rw [if_pos hc240_49])
                  · refine own_go (fun t_ k => XS.ifYes X48.here hx rfl (pc0 := 240) (pc' := 248) rfl (hb hby at_240) rfl ((if0 _ _).trans (flt (mt (lw_lt _ _).mp hc240_49)).2.1) (by decide) (by decide) k) ?_
                    show WP p e below _ (T48.setTop (mkF m 248 #[.val (.long q1), .second, .val (.long q2), .second, .val (.long q3), .second, .val (.int p4), .val (.int p5), .val (.long vj4), .second, .val (.long vj8), .second, .val (.long vj16), .second, .val (.int vi17), .val (.int vi18), .val (.int vi19), .val (.int vi20), .val (.ref b21), .val (.int vi39), .val (.long zz41_L20), .second, .unset] [(.int (z44_S0 + z47_S0))]))
                    refine own_go (fun t_ k => XS.iconst X48.here hx rfl (hb hby at_248) k) ?_
                    show WP p e below _ (T48.setTop (mkF m 249 #[.val (.long q1), .second, .val (.long q2), .second, .val (.long q3), .second, .val (.int p4), .val (.int p5), .val (.long vj4), .second, .val (.long vj8), .second, .val (.long vj16), .second, .val (.int vi17), .val (.int vi18), .val (.int vi19), .val (.int vi20), .val (.ref b21), .val (.int vi39), .val (.long zz41_L20), .second, .unset] [(.int (0 : Int32)), (.int (z44_S0 + z47_S0))]))
                    exact J51 T48 _ X48 N48 e48 _ (by rw [if_neg hc240_49])
                by_cases hc225_46 : vj16 < zz41_L20
                · refine own_go (fun t_ k => XS.ifNo X45.here hx rfl (hb hby at_225) rfl ((if0 _ _).trans (tlt ((lw_lt _ _).mpr hc225_46)).2.1) k) ?_
                  show WP p e below _ (T45.setTop (mkF m 228 #[.val (.long q1), .second, .val (.long q2), .second, .val (.long q3), .second, .val (.int p4), .val (.int p5), .val (.long vj4), .second, .val (.long vj8), .second, .val (.long vj16), .second, .val (.int vi17), .val (.int vi18), .val (.int vi19), .val (.int vi20), .val (.ref b21), .val (.int vi39), .val (.long zz41_L20), .second, .unset] [(.int z44_S0)]))
                  refine own_go (fun t_ k => XS.iload X45.here hx rfl (hb hby at_228) rfl k) ?_
                  show WP p e below _ (T45.setTop (mkF m 230 #[.val (.long q1), .second, .val (.long q2), .second, .val (.long q3), .second, .val (.int p4), .val (.int p5), .val (.long vj4), .second, .val (.long vj8), .second, .val (.long vj16), .second, .val (.int vi17), .val (.int vi18), .val (.int vi19), .val (.int vi20), .val (.ref b21), .val (.int vi39), .val (.long zz41_L20), .second, .unset] [(.int vi18), (.int z44_S0)]))
                  refine own_go (fun t_ k => XS.goto X45.here hx rfl (pc0 := 230) (pc' := 234) rfl (hb hby at_230) (by decide) (by decide) k) ?_
                  show WP p e below _ (T45.setTop (mkF m 234 #[.val (.long q1), .second, .val (.long q2), .second, .val (.long q3), .second, .val (.int p4), .val (.int p5), .val (.long vj4), .second, .val (.long vj8), .second, .val (.long vj16), .second, .val (.int vi17), .val (.int vi18), .val (.int vi19), .val (.int vi20), .val (.ref b21), .val (.int vi39), .val (.long zz41_L20), .second, .unset] [(.int vi18), (.int z44_S0)]))
                  exact J48 T45 _ X45 N45 e45 _ (by rw [if_pos hc225_46])
                · refine own_go (fun t_ k => XS.ifYes X45.here hx rfl (pc0 := 225) (pc' := 233) rfl (hb hby at_225) rfl ((if0 _ _).trans (flt (mt (lw_lt _ _).mp hc225_46)).2.1) (by decide) (by decide) k) ?_
                  show WP p e below _ (T45.setTop (mkF m 233 #[.val (.long q1), .second, .val (.long q2), .second, .val (.long q3), .second, .val (.int p4), .val (.int p5), .val (.long vj4), .second, .val (.long vj8), .second, .val (.long vj16), .second, .val (.int vi17), .val (.int vi18), .val (.int vi19), .val (.int vi20), .val (.ref b21), .val (.int vi39), .val (.long zz41_L20), .second, .unset] [(.int z44_S0)]))
                  refine own_go (fun t_ k => XS.iconst X45.here hx rfl (hb hby at_233) k) ?_
                  show WP p e below _ (T45.setTop (mkF m 234 #[.val (.long q1), .second, .val (.long q2), .second, .val (.long q3), .second, .val (.int p4), .val (.int p5), .val (.long vj4), .second, .val (.long vj8), .second, .val (.long vj16), .second, .val (.int vi17), .val (.int vi18), .val (.int vi19), .val (.int vi20), .val (.ref b21), .val (.int vi39), .val (.long zz41_L20), .second, .unset] [(.int (0 : Int32)), (.int z44_S0)]))
                  exact J48 T45 _ X45 N45 e45 _ (by rw [if_neg hc225_46])
              by_cases hc211_43 : vj4 < zz41_L20
              · refine own_go (fun t_ k => XS.ifNo X42.here hx rfl (hb hby at_211) rfl ((if0 _ _).trans (tlt ((lw_lt _ _).mpr hc211_43)).2.1) k) ?_
                show WP p e below _ (T42.setTop (mkF m 214 #[.val (.long q1), .second, .val (.long q2), .second, .val (.long q3), .second, .val (.int p4), .val (.int p5), .val (.long vj4), .second, .val (.long vj8), .second, .val (.long vj16), .second, .val (.int vi17), .val (.int vi18), .val (.int vi19), .val (.int vi20), .val (.ref b21), .val (.int vi39), .val (.long zz41_L20), .second, .unset] []))
                refine own_go (fun t_ k => XS.iload X42.here hx rfl (hb hby at_214) rfl k) ?_
                show WP p e below _ (T42.setTop (mkF m 216 #[.val (.long q1), .second, .val (.long q2), .second, .val (.long q3), .second, .val (.int p4), .val (.int p5), .val (.long vj4), .second, .val (.long vj8), .second, .val (.long vj16), .second, .val (.int vi17), .val (.int vi18), .val (.int vi19), .val (.int vi20), .val (.ref b21), .val (.int vi39), .val (.long zz41_L20), .second, .unset] [(.int vi17)]))
                refine own_go (fun t_ k => XS.goto X42.here hx rfl (pc0 := 216) (pc' := 220) rfl (hb hby at_216) (by decide) (by decide) k) ?_
                show WP p e below _ (T42.setTop (mkF m 220 #[.val (.long q1), .second, .val (.long q2), .second, .val (.long q3), .second, .val (.int p4), .val (.int p5), .val (.long vj4), .second, .val (.long vj8), .second, .val (.long vj16), .second, .val (.int vi17), .val (.int vi18), .val (.int vi19), .val (.int vi20), .val (.ref b21), .val (.int vi39), .val (.long zz41_L20), .second, .unset] [(.int vi17)]))
                exact J45 T42 _ X42 N42 e42 _ (by rw [if_pos hc211_43])
              · refine own_go (fun t_ k => XS.ifYes X42.here hx rfl (pc0 := 211) (pc' := 219) rfl (hb hby at_211) rfl ((if0 _ _).trans (flt (mt (lw_lt _ _).mp hc211_43)).2.1) (by decide) (by decide) k) ?_
                show WP p e below _ (T42.setTop (mkF m 219 #[.val (.long q1), .second, .val (.long q2), .second, .val (.long q3), .second, .val (.int p4), .val (.int p5), .val (.long vj4), .second, .val (.long vj8), .second, .val (.long vj16), .second, .val (.int vi17), .val (.int vi18), .val (.int vi19), .val (.int vi20), .val (.ref b21), .val (.int vi39), .val (.long zz41_L20), .second, .unset] []))
                refine own_go (fun t_ k => XS.iconst X42.here hx rfl (hb hby at_219) k) ?_
                show WP p e below _ (T42.setTop (mkF m 220 #[.val (.long q1), .second, .val (.long q2), .second, .val (.long q3), .second, .val (.int p4), .val (.int p5), .val (.long vj4), .second, .val (.long vj8), .second, .val (.long vj16), .second, .val (.int vi17), .val (.int vi18), .val (.int vi19), .val (.int vi20), .val (.ref b21), .val (.int vi39), .val (.long zz41_L20), .second, .unset] [(.int (0 : Int32))]))
                exact J45 T42 _ X42 N42 e42 _ (by rw [if_neg hc211_43])
            by_cases hc175_40 : vi39 < vi17
            · refine own_go (fun t_ k => XS.icmpNo X38.here hx rfl (hb hby at_175) rfl (tlt hc175_40).2.1 k) ?_
              show WP p e below _ (T38.setTop (mkF m 178 #[.val (.long q1), .second, .val (.long q2), .second, .val (.long q3), .second, .val (.int p4), .val (.int p5), .val (.long vj4), .second, .val (.long vj8), .second, .val (.long vj16), .second, .val (.int vi17), .val (.int vi18), .val (.int vi19), .val (.int vi20), .val (.ref b21), .val (.int vi39), .unset, .unset, .unset] []))
              refine own_go (fun t_ k => XS.lload X38.here hx rfl (hb hby at_178) rfl k) ?_
              show WP p e below _ (T38.setTop (mkF m 180 #[.val (.long q1), .second, .val (.long q2), .second, .val (.long q3), .second, .val (.int p4), .val (.int p5), .val (.long vj4), .second, .val (.long vj8), .second, .val (.long vj16), .second, .val (.int vi17), .val (.int vi18), .val (.int vi19), .val (.int vi20), .val (.ref b21), .val (.int vi39), .unset, .unset, .unset] [(.long vj4)]))
              refine own_go (fun t_ k => XS.lstore X38.here hx rfl (hb hby at_180) rfl (l' := #[.val (.long q1), .second, .val (.long q2), .second, .val (.long q3), .second, .val (.int p4), .val (.int p5), .val (.long vj4), .second, .val (.long vj8), .second, .val (.long vj16), .second, .val (.int vi17), .val (.int vi18), .val (.int vi19), .val (.int vi20), .val (.ref b21), .val (.int vi39), .val (.long vj4), .second, .unset]) rfl k) ?_
              show WP p e below _ (T38.setTop (mkF m 182 #[.val (.long q1), .second, .val (.long q2), .second, .val (.long q3), .second, .val (.int p4), .val (.int p5), .val (.long vj4), .second, .val (.long vj8), .second, .val (.long vj16), .second, .val (.int vi17), .val (.int vi18), .val (.int vi19), .val (.int vi20), .val (.ref b21), .val (.int vi39), .val (.long vj4), .second, .unset] []))
              refine own_go (fun t_ k => XS.goto X38.here hx rfl (pc0 := 182) (pc' := 206) rfl (hb hby at_182) (by decide) (by decide) k) ?_
              show WP p e below _ (T38.setTop (mkF m 206 #[.val (.long q1), .second, .val (.long q2), .second, .val (.long q3), .second, .val (.int p4), .val (.int p5), .val (.long vj4), .second, .val (.long vj8), .second, .val (.long vj16), .second, .val (.int vi17), .val (.int vi18), .val (.int vi19), .val (.int vi20), .val (.ref b21), .val (.int vi39), .val (.long vj4), .second, .unset] []))
              exact J42 T38 _ X38 N38 e38 _ (by rw [if_pos hc175_40])
            · refine own_go (fun t_ k => XS.icmpYes X38.here hx rfl (pc0 := 175) (pc' := 185) rfl (hb hby at_175) rfl (flt hc175_40).2.1 (by decide) (by decide) k) ?_
              show WP p e below _ (T38.setTop (mkF m 185 #[.val (.long q1), .second, .val (.long q2), .second, .val (.long q3), .second, .val (.int p4), .val (.int p5), .val (.long vj4), .second, .val (.long vj8), .second, .val (.long vj16), .second, .val (.int vi17), .val (.int vi18), .val (.int vi19), .val (.int vi20), .val (.ref b21), .val (.int vi39), .unset, .unset, .unset] []))
              refine own_go (fun t_ k => XS.iload X38.here hx rfl (hb hby at_185) rfl k) ?_
              show WP p e below _ (T38.setTop (mkF m 187 #[.val (.long q1), .second, .val (.long q2), .second, .val (.long q3), .second, .val (.int p4), .val (.int p5), .val (.long vj4), .second, .val (.long vj8), .second, .val (.long vj16), .second, .val (.int vi17), .val (.int vi18), .val (.int vi19), .val (.int vi20), .val (.ref b21), .val (.int vi39), .unset, .unset, .unset] [(.int vi39)]))
              refine own_go (fun t_ k => XS.iload X38.here hx rfl (hb hby at_187) rfl k) ?_
              show WP p e below _ (T38.setTop (mkF m 189 #[.val (.long q1), .second, .val (.long q2), .second, .val (.long q3), .second, .val (.int p4), .val (.int p5), .val (.long vj4), .second, .val (.long vj8), .second, .val (.long vj16), .second, .val (.int vi17), .val (.int vi18), .val (.int vi19), .val (.int vi20), .val (.ref b21), .val (.int vi39), .unset, .unset, .unset] [(.int vi17), (.int vi39)]))
              refine own_go (fun t_ k => XS.iload X38.here hx rfl (hb hby at_189) rfl k) ?_
              show WP p e below _ (T38.setTop (mkF m 191 #[.val (.long q1), .second, .val (.long q2), .second, .val (.long q3), .second, .val (.int p4), .val (.int p5), .val (.long vj4), .second, .val (.long vj8), .second, .val (.long vj16), .second, .val (.int vi17), .val (.int vi18), .val (.int vi19), .val (.int vi20), .val (.ref b21), .val (.int vi39), .unset, .unset, .unset] [(.int vi18), (.int vi17), (.int vi39)]))
              refine own_go (fun t_ k => XS.iadd X38.here hx rfl (hb hby at_191) rfl k) ?_
              show WP p e below _ (T38.setTop (mkF m 192 #[.val (.long q1), .second, .val (.long q2), .second, .val (.long q3), .second, .val (.int p4), .val (.int p5), .val (.long vj4), .second, .val (.long vj8), .second, .val (.long vj16), .second, .val (.int vi17), .val (.int vi18), .val (.int vi19), .val (.int vi20), .val (.ref b21), .val (.int vi39), .unset, .unset, .unset] [(.int (vi17 + vi18)), (.int vi39)]))
              by_cases hc192_59 : vi39 < (vi17 + vi18)
              · refine own_go (fun t_ k => XS.icmpNo X38.here hx rfl (hb hby at_192) rfl (tlt hc192_59).2.1 k) ?_
                show WP p e below _ (T38.setTop (mkF m 195 #[.val (.long q1), .second, .val (.long q2), .second, .val (.long q3), .second, .val (.int p4), .val (.int p5), .val (.long vj4), .second, .val (.long vj8), .second, .val (.long vj16), .second, .val (.int vi17), .val (.int vi18), .val (.int vi19), .val (.int vi20), .val (.ref b21), .val (.int vi39), .unset, .unset, .unset] []))
                refine own_go (fun t_ k => XS.lload X38.here hx rfl (hb hby at_195) rfl k) ?_
                show WP p e below _ (T38.setTop (mkF m 197 #[.val (.long q1), .second, .val (.long q2), .second, .val (.long q3), .second, .val (.int p4), .val (.int p5), .val (.long vj4), .second, .val (.long vj8), .second, .val (.long vj16), .second, .val (.int vi17), .val (.int vi18), .val (.int vi19), .val (.int vi20), .val (.ref b21), .val (.int vi39), .unset, .unset, .unset] [(.long vj16)]))
                refine own_go (fun t_ k => XS.lstore X38.here hx rfl (hb hby at_197) rfl (l' := #[.val (.long q1), .second, .val (.long q2), .second, .val (.long q3), .second, .val (.int p4), .val (.int p5), .val (.long vj4), .second, .val (.long vj8), .second, .val (.long vj16), .second, .val (.int vi17), .val (.int vi18), .val (.int vi19), .val (.int vi20), .val (.ref b21), .val (.int vi39), .val (.long vj16), .second, .unset]) rfl k) ?_
                show WP p e below _ (T38.setTop (mkF m 199 #[.val (.long q1), .second, .val (.long q2), .second, .val (.long q3), .second, .val (.int p4), .val (.int p5), .val (.long vj4), .second, .val (.long vj8), .second, .val (.long vj16), .second, .val (.int vi17), .val (.int vi18), .val (.int vi19), .val (.int vi20), .val (.ref b21), .val (.int vi39), .val (.long vj16), .second, .unset] []))
                refine own_go (fun t_ k => XS.goto X38.here hx rfl (pc0 := 199) (pc' := 206) rfl (hb hby at_199) (by decide) (by decide) k) ?_
                show WP p e below _ (T38.setTop (mkF m 206 #[.val (.long q1), .second, .val (.long q2), .second, .val (.long q3), .second, .val (.int p4), .val (.int p5), .val (.long vj4), .second, .val (.long vj8), .second, .val (.long vj16), .second, .val (.int vi17), .val (.int vi18), .val (.int vi19), .val (.int vi20), .val (.ref b21), .val (.int vi39), .val (.long vj16), .second, .unset] []))
                exact J42 T38 _ X38 N38 e38 _ (by rw [if_neg hc175_40, if_pos hc192_59])
              · refine own_go (fun t_ k => XS.icmpYes X38.here hx rfl (pc0 := 192) (pc' := 202) rfl (hb hby at_192) rfl (flt hc192_59).2.1 (by decide) (by decide) k) ?_
                show WP p e below _ (T38.setTop (mkF m 202 #[.val (.long q1), .second, .val (.long q2), .second, .val (.long q3), .second, .val (.int p4), .val (.int p5), .val (.long vj4), .second, .val (.long vj8), .second, .val (.long vj16), .second, .val (.int vi17), .val (.int vi18), .val (.int vi19), .val (.int vi20), .val (.ref b21), .val (.int vi39), .unset, .unset, .unset] []))
                refine own_go (fun t_ k => XS.lload X38.here hx rfl (hb hby at_202) rfl k) ?_
                show WP p e below _ (T38.setTop (mkF m 204 #[.val (.long q1), .second, .val (.long q2), .second, .val (.long q3), .second, .val (.int p4), .val (.int p5), .val (.long vj4), .second, .val (.long vj8), .second, .val (.long vj16), .second, .val (.int vi17), .val (.int vi18), .val (.int vi19), .val (.int vi20), .val (.ref b21), .val (.int vi39), .unset, .unset, .unset] [(.long vj8)]))
                refine own_go (fun t_ k => XS.lstore X38.here hx rfl (hb hby at_204) rfl (l' := #[.val (.long q1), .second, .val (.long q2), .second, .val (.long q3), .second, .val (.int p4), .val (.int p5), .val (.long vj4), .second, .val (.long vj8), .second, .val (.long vj16), .second, .val (.int vi17), .val (.int vi18), .val (.int vi19), .val (.int vi20), .val (.ref b21), .val (.int vi39), .val (.long vj8), .second, .unset]) rfl k) ?_
                show WP p e below _ (T38.setTop (mkF m 206 #[.val (.long q1), .second, .val (.long q2), .second, .val (.long q3), .second, .val (.int p4), .val (.int p5), .val (.long vj4), .second, .val (.long vj8), .second, .val (.long vj16), .second, .val (.int vi17), .val (.int vi18), .val (.int vi19), .val (.int vi20), .val (.ref b21), .val (.int vi39), .val (.long vj8), .second, .unset] []))
                exact J42 T38 _ X38 N38 e38 _ (by rw [if_neg hc175_40, if_neg hc192_59])
          by_cases hc151_36 : (1 : Int32) < vi19
          · refine own_go (fun t_ k => XS.icmpNo X35.here hx rfl (hb hby at_151) rfl (tlt hc151_36).2.2.2 k) ?_
            show WP p e below _ (T35.setTop (mkF m 154 #[.val (.long q1), .second, .val (.long q2), .second, .val (.long q3), .second, .val (.int p4), .val (.int p5), .val (.long vj4), .second, .val (.long vj8), .second, .val (.long vj16), .second, .val (.int vi17), .val (.int vi18), .val (.int vi19), .val (.int vi20), .val (.ref b21), .unset, .unset, .unset, .unset] []))
            refine own_go (fun t_ k => XS.aload X35.here hx rfl (hb hby at_154) rfl rfl k) ?_
            show WP p e below _ (T35.setTop (mkF m 156 #[.val (.long q1), .second, .val (.long q2), .second, .val (.long q3), .second, .val (.int p4), .val (.int p5), .val (.long vj4), .second, .val (.long vj8), .second, .val (.long vj16), .second, .val (.int vi17), .val (.int vi18), .val (.int vi19), .val (.int vi20), .val (.ref b21), .unset, .unset, .unset, .unset] [(.ref b21)]))
            refine own_go (fun t_ k => XS.lload X35.here hx rfl (hb hby at_156) rfl k) ?_
            show WP p e below _ (T35.setTop (mkF m 158 #[.val (.long q1), .second, .val (.long q2), .second, .val (.long q3), .second, .val (.int p4), .val (.int p5), .val (.long vj4), .second, .val (.long vj8), .second, .val (.long vj16), .second, .val (.int vi17), .val (.int vi18), .val (.int vi19), .val (.int vi20), .val (.ref b21), .unset, .unset, .unset, .unset] [(.long vj8), (.ref b21)]))
            obtain ⟨cq60, kq60, q60a, q60b, q60c⟩ := isOf (T := T35) hZ e35 Pj35.1
            obtain ⟨_, _, ⟨T60, L60, k60, n60⟩, -, X60, ⟨Lc60, hQ60, l60, y60, z60⟩, st60⟩ := X35.virtualBack hx (y := (⟨"com/example/vestry/vestry/Longs", "add", "(J)V"⟩ : MethodName)) (z := (⟨"com/example/vestry/vestry/Longs", "add", "(J)V"⟩ : MethodName)) hown (mvT hZ (hw _ (List.mem_of_getElem? (i := 24) rfl))) (mvT hZ (hw _ (List.mem_of_getElem? (i := 25) rfl))) (notFace_of_selects (args := #[]) (mvT hZ (hw _ (List.mem_of_getElem? (i := 27) rfl)))) (mvT hZ (hw _ (List.mem_of_getElem? (i := 27) rfl))) (mvT hZ (hw _ (List.mem_of_getElem? (i := 26) rfl))) (by decide) (backOf (W := 0) (rm_add l Z a0 hw [] b21 vj8 t22 kk22 xs35 hj35 n0 Pj35 g_b21 gt22 (by first | decide | omega | (simp only [List.length_append, List.length_cons, List.length_nil]; omega))) hZ (hw _ (List.mem_of_getElem? (i := 28) rfl)) (hw _ (List.mem_of_getElem? (i := 9) rfl)) (by decide) (by decide)) q60a q60c (g := (mkF m 158 #[.val (.long q1), .second, .val (.long q2), .second, .val (.long q3), .second, .val (.int p4), .val (.int p5), .val (.long vj4), .second, .val (.long vj8), .second, .val (.long vj16), .second, .val (.int vi17), .val (.int vi18), .val (.int vi19), .val (.int vi20), .val (.ref b21), .unset, .unset, .unset, .unset] [(.long vj8), (.ref b21)])) rfl (by rw [hml]; rfl) (Steps.refl _) (argsL := [(.long vj8)]) (rest := []) (lenOf pd_6 rfl) rfl (by show 2 * 0 + _ ≤ _; exact Nat.le_of_eq rfl) (hb hby at_158) (fun _ _ => ⟨rfl, e35, (by decide : 2 + 0 ≤ _), (by decide : 1026 + 0 ≤ _)⟩)
            dsimp only [Pt.U, Pt.locs, Pt.cells, Pt.slots] at X60 l60 y60 z60 st60 hQ60
            subst l60 y60 z60
            obtain ⟨rfl, N60q, K60c, P60⟩ := hQ60
            have N60 := Fr.app N35 N60q
            replace X60 : Stand p l e room_1 s m _ below meth c T60 _ 2 1026 := X60
            refine own_go (fun t_ k => st60.trans k) ?_
            have K60 : Keep h0 T60.heap [] := Kj35.trans K60c (allS (Or.inr sz_b21) (allS (Or.inr szt22) all0))
            replace P60 : LG Z T60.heap b21 t22 kk22 (xs35 ++ [vj8]) := P60
            show WP p e below _ (T60.setTop (mkF m 161 #[.val (.long q1), .second, .val (.long q2), .second, .val (.long q3), .second, .val (.int p4), .val (.int p5), .val (.long vj4), .second, .val (.long vj8), .second, .val (.long vj16), .second, .val (.int vi17), .val (.int vi18), .val (.int vi19), .val (.int vi20), .val (.ref b21), .unset, .unset, .unset, .unset] []))
            exact J38 T60 _ X60 N60 T60.heap K60 _ (by rw [if_pos hc151_36]) (by first | omega | (simp only [List.length_append, List.length_cons, List.length_nil]; omega) | simp) P60 rfl
          · refine own_go (fun t_ k => XS.icmpYes X35.here hx rfl (pc0 := 151) (pc' := 161) rfl (hb hby at_151) rfl (flt hc151_36).2.2.2 (by decide) (by decide) k) ?_
            show WP p e below _ (T35.setTop (mkF m 161 #[.val (.long q1), .second, .val (.long q2), .second, .val (.long q3), .second, .val (.int p4), .val (.int p5), .val (.long vj4), .second, .val (.long vj8), .second, .val (.long vj16), .second, .val (.int vi17), .val (.int vi18), .val (.int vi19), .val (.int vi20), .val (.ref b21), .unset, .unset, .unset, .unset] []))
            exact J38 T35 _ X35 N35 hj35 Kj35 _ (by rw [if_neg hc151_36]) (by first | omega | (simp only [List.length_append, List.length_cons, List.length_nil]; omega) | simp) Pj35 e35
        by_cases hc138_33 : (0 : Int32) < vi19
        · refine own_go (fun t_ k => XS.ifNo X32.here hx rfl (hb hby at_138) rfl ((if0 _ _).trans (tlt hc138_33).2.2.2) k) ?_
          show WP p e below _ (T32.setTop (mkF m 141 #[.val (.long q1), .second, .val (.long q2), .second, .val (.long q3), .second, .val (.int p4), .val (.int p5), .val (.long vj4), .second, .val (.long vj8), .second, .val (.long vj16), .second, .val (.int vi17), .val (.int vi18), .val (.int vi19), .val (.int vi20), .val (.ref b21), .unset, .unset, .unset, .unset] []))
          refine own_go (fun t_ k => XS.aload X32.here hx rfl (hb hby at_141) rfl rfl k) ?_
          show WP p e below _ (T32.setTop (mkF m 143 #[.val (.long q1), .second, .val (.long q2), .second, .val (.long q3), .second, .val (.int p4), .val (.int p5), .val (.long vj4), .second, .val (.long vj8), .second, .val (.long vj16), .second, .val (.int vi17), .val (.int vi18), .val (.int vi19), .val (.int vi20), .val (.ref b21), .unset, .unset, .unset, .unset] [(.ref b21)]))
          refine own_go (fun t_ k => XS.lload X32.here hx rfl (hb hby at_143) rfl k) ?_
          show WP p e below _ (T32.setTop (mkF m 145 #[.val (.long q1), .second, .val (.long q2), .second, .val (.long q3), .second, .val (.int p4), .val (.int p5), .val (.long vj4), .second, .val (.long vj8), .second, .val (.long vj16), .second, .val (.int vi17), .val (.int vi18), .val (.int vi19), .val (.int vi20), .val (.ref b21), .unset, .unset, .unset, .unset] [(.long vj8), (.ref b21)]))
          obtain ⟨cq61, kq61, q61a, q61b, q61c⟩ := isOf (T := T32) hZ e32 Pj32.1
          obtain ⟨_, _, ⟨T61, L61, k61, n61⟩, -, X61, ⟨Lc61, hQ61, l61, y61, z61⟩, st61⟩ := X32.virtualBack hx (y := (⟨"com/example/vestry/vestry/Longs", "add", "(J)V"⟩ : MethodName)) (z := (⟨"com/example/vestry/vestry/Longs", "add", "(J)V"⟩ : MethodName)) hown (mvT hZ (hw _ (List.mem_of_getElem? (i := 24) rfl))) (mvT hZ (hw _ (List.mem_of_getElem? (i := 25) rfl))) (notFace_of_selects (args := #[]) (mvT hZ (hw _ (List.mem_of_getElem? (i := 27) rfl)))) (mvT hZ (hw _ (List.mem_of_getElem? (i := 27) rfl))) (mvT hZ (hw _ (List.mem_of_getElem? (i := 26) rfl))) (by decide) (backOf (W := 0) (rm_add l Z a0 hw [] b21 vj8 t22 kk22 xs32 hj32 n0 Pj32 g_b21 gt22 (by first | decide | omega | (simp only [List.length_append, List.length_cons, List.length_nil]; omega))) hZ (hw _ (List.mem_of_getElem? (i := 28) rfl)) (hw _ (List.mem_of_getElem? (i := 9) rfl)) (by decide) (by decide)) q61a q61c (g := (mkF m 145 #[.val (.long q1), .second, .val (.long q2), .second, .val (.long q3), .second, .val (.int p4), .val (.int p5), .val (.long vj4), .second, .val (.long vj8), .second, .val (.long vj16), .second, .val (.int vi17), .val (.int vi18), .val (.int vi19), .val (.int vi20), .val (.ref b21), .unset, .unset, .unset, .unset] [(.long vj8), (.ref b21)])) rfl (by rw [hml]; rfl) (Steps.refl _) (argsL := [(.long vj8)]) (rest := []) (lenOf pd_6 rfl) rfl (by show 2 * 0 + _ ≤ _; exact Nat.le_of_eq rfl) (hb hby at_145) (fun _ _ => ⟨rfl, e32, (by decide : 2 + 0 ≤ _), (by decide : 1026 + 0 ≤ _)⟩)
          dsimp only [Pt.U, Pt.locs, Pt.cells, Pt.slots] at X61 l61 y61 z61 st61 hQ61
          subst l61 y61 z61
          obtain ⟨rfl, N61q, K61c, P61⟩ := hQ61
          have N61 := Fr.app N32 N61q
          replace X61 : Stand p l e room_1 s m _ below meth c T61 _ 2 1026 := X61
          refine own_go (fun t_ k => st61.trans k) ?_
          have K61 : Keep h0 T61.heap [] := Kj32.trans K61c (allS (Or.inr sz_b21) (allS (Or.inr szt22) all0))
          replace P61 : LG Z T61.heap b21 t22 kk22 (xs32 ++ [vj8]) := P61
          show WP p e below _ (T61.setTop (mkF m 148 #[.val (.long q1), .second, .val (.long q2), .second, .val (.long q3), .second, .val (.int p4), .val (.int p5), .val (.long vj4), .second, .val (.long vj8), .second, .val (.long vj16), .second, .val (.int vi17), .val (.int vi18), .val (.int vi19), .val (.int vi20), .val (.ref b21), .unset, .unset, .unset, .unset] []))
          exact J35 T61 _ X61 N61 T61.heap K61 _ (by rw [if_pos hc138_33]) (by first | omega | (simp only [List.length_append, List.length_cons, List.length_nil]; omega) | simp) P61 rfl
        · refine own_go (fun t_ k => XS.ifYes X32.here hx rfl (pc0 := 138) (pc' := 148) rfl (hb hby at_138) rfl ((if0 _ _).trans (flt hc138_33).2.2.2) (by decide) (by decide) k) ?_
          show WP p e below _ (T32.setTop (mkF m 148 #[.val (.long q1), .second, .val (.long q2), .second, .val (.long q3), .second, .val (.int p4), .val (.int p5), .val (.long vj4), .second, .val (.long vj8), .second, .val (.long vj16), .second, .val (.int vi17), .val (.int vi18), .val (.int vi19), .val (.int vi20), .val (.ref b21), .unset, .unset, .unset, .unset] []))
          exact J35 T32 _ X32 N32 hj32 Kj32 _ (by rw [if_neg hc138_33]) (by first | omega | (simp only [List.length_append, List.length_cons, List.length_nil]; omega) | simp) Pj32 e32
      by_cases hc126_30 : (1 : Int32) < vi18
      · refine own_go (fun t_ k => XS.icmpNo X29.here hx rfl (hb hby at_126) rfl (tlt hc126_30).2.2.2 k) ?_
        show WP p e below _ (T29.setTop (mkF m 129 #[.val (.long q1), .second, .val (.long q2), .second, .val (.long q3), .second, .val (.int p4), .val (.int p5), .val (.long vj4), .second, .val (.long vj8), .second, .val (.long vj16), .second, .val (.int vi17), .val (.int vi18), .val (.int vi19), .val (.int vi20), .val (.ref b21), .unset, .unset, .unset, .unset] []))
        refine own_go (fun t_ k => XS.aload X29.here hx rfl (hb hby at_129) rfl rfl k) ?_
        show WP p e below _ (T29.setTop (mkF m 131 #[.val (.long q1), .second, .val (.long q2), .second, .val (.long q3), .second, .val (.int p4), .val (.int p5), .val (.long vj4), .second, .val (.long vj8), .second, .val (.long vj16), .second, .val (.int vi17), .val (.int vi18), .val (.int vi19), .val (.int vi20), .val (.ref b21), .unset, .unset, .unset, .unset] [(.ref b21)]))
        refine own_go (fun t_ k => XS.lload X29.here hx rfl (hb hby at_131) rfl k) ?_
        show WP p e below _ (T29.setTop (mkF m 133 #[.val (.long q1), .second, .val (.long q2), .second, .val (.long q3), .second, .val (.int p4), .val (.int p5), .val (.long vj4), .second, .val (.long vj8), .second, .val (.long vj16), .second, .val (.int vi17), .val (.int vi18), .val (.int vi19), .val (.int vi20), .val (.ref b21), .unset, .unset, .unset, .unset] [(.long vj16), (.ref b21)]))
        obtain ⟨cq62, kq62, q62a, q62b, q62c⟩ := isOf (T := T29) hZ rfl P29.1
        obtain ⟨_, _, ⟨T62, L62, k62, n62⟩, -, X62, ⟨Lc62, hQ62, l62, y62, z62⟩, st62⟩ := X29.virtualBack hx (y := (⟨"com/example/vestry/vestry/Longs", "add", "(J)V"⟩ : MethodName)) (z := (⟨"com/example/vestry/vestry/Longs", "add", "(J)V"⟩ : MethodName)) hown (mvT hZ (hw _ (List.mem_of_getElem? (i := 24) rfl))) (mvT hZ (hw _ (List.mem_of_getElem? (i := 25) rfl))) (notFace_of_selects (args := #[]) (mvT hZ (hw _ (List.mem_of_getElem? (i := 27) rfl)))) (mvT hZ (hw _ (List.mem_of_getElem? (i := 27) rfl))) (mvT hZ (hw _ (List.mem_of_getElem? (i := 26) rfl))) (by decide) (backOf (W := 0) (rm_add l Z a0 hw [] b21 vj16 t22 kk22 (xs28 ++ [vj16]) T29.heap n0 P29 g_b21 gt22 (by first | decide | omega | (simp only [List.length_append, List.length_cons, List.length_nil]; omega))) hZ (hw _ (List.mem_of_getElem? (i := 28) rfl)) (hw _ (List.mem_of_getElem? (i := 9) rfl)) (by decide) (by decide)) q62a q62c (g := (mkF m 133 #[.val (.long q1), .second, .val (.long q2), .second, .val (.long q3), .second, .val (.int p4), .val (.int p5), .val (.long vj4), .second, .val (.long vj8), .second, .val (.long vj16), .second, .val (.int vi17), .val (.int vi18), .val (.int vi19), .val (.int vi20), .val (.ref b21), .unset, .unset, .unset, .unset] [(.long vj16), (.ref b21)])) rfl (by rw [hml]; rfl) (Steps.refl _) (argsL := [(.long vj16)]) (rest := []) (lenOf pd_6 rfl) rfl (by show 2 * 0 + _ ≤ _; exact Nat.le_of_eq rfl) (hb hby at_133) (fun _ _ => ⟨rfl, rfl, (by decide : 2 + 0 ≤ _), (by decide : 1026 + 0 ≤ _)⟩)
        dsimp only [Pt.U, Pt.locs, Pt.cells, Pt.slots] at X62 l62 y62 z62 st62 hQ62
        subst l62 y62 z62
        obtain ⟨rfl, N62q, K62c, P62⟩ := hQ62
        have N62 := Fr.app N29 N62q
        replace X62 : Stand p l e room_1 s m _ below meth c T62 _ 2 1026 := X62
        refine own_go (fun t_ k => st62.trans k) ?_
        have K62 : Keep h0 T62.heap [] := K29.trans K62c (allS (Or.inr sz_b21) (allS (Or.inr szt22) all0))
        replace P62 : LG Z T62.heap b21 t22 kk22 ((xs28 ++ [vj16]) ++ [vj16]) := P62
        show WP p e below _ (T62.setTop (mkF m 136 #[.val (.long q1), .second, .val (.long q2), .second, .val (.long q3), .second, .val (.int p4), .val (.int p5), .val (.long vj4), .second, .val (.long vj8), .second, .val (.long vj16), .second, .val (.int vi17), .val (.int vi18), .val (.int vi19), .val (.int vi20), .val (.ref b21), .unset, .unset, .unset, .unset] []))
        exact J32 T62 _ X62 N62 T62.heap K62 _ (by rw [if_pos hc126_30]) (by first | omega | (simp only [List.length_append, List.length_cons, List.length_nil]; omega) | simp) P62 rfl
      · refine own_go (fun t_ k => XS.icmpYes X29.here hx rfl (pc0 := 126) (pc' := 136) rfl (hb hby at_126) rfl (flt hc126_30).2.2.2 (by decide) (by decide) k) ?_
        show WP p e below _ (T29.setTop (mkF m 136 #[.val (.long q1), .second, .val (.long q2), .second, .val (.long q3), .second, .val (.int p4), .val (.int p5), .val (.long vj4), .second, .val (.long vj8), .second, .val (.long vj16), .second, .val (.int vi17), .val (.int vi18), .val (.int vi19), .val (.int vi20), .val (.ref b21), .unset, .unset, .unset, .unset] []))
        exact J32 T29 _ X29 N29 T29.heap K29 _ (by rw [if_neg hc126_30]) (by first | omega | (simp only [List.length_append, List.length_cons, List.length_nil]; omega) | simp) P29 rfl
    by_cases hc106_26 : (1 : Int32) < vi17
    · refine own_go (fun t_ k => XS.icmpNo X25.here hx rfl (hb hby at_106) rfl (tlt hc106_26).2.2.2 k) ?_
      show WP p e below _ (T25.setTop (mkF m 109 #[.val (.long q1), .second, .val (.long q2), .second, .val (.long q3), .second, .val (.int p4), .val (.int p5), .val (.long vj4), .second, .val (.long vj8), .second, .val (.long vj16), .second, .val (.int vi17), .val (.int vi18), .val (.int vi19), .val (.int vi20), .val (.ref b21), .unset, .unset, .unset, .unset] []))
      refine own_go (fun t_ k => XS.aload X25.here hx rfl (hb hby at_109) rfl rfl k) ?_
      show WP p e below _ (T25.setTop (mkF m 111 #[.val (.long q1), .second, .val (.long q2), .second, .val (.long q3), .second, .val (.int p4), .val (.int p5), .val (.long vj4), .second, .val (.long vj8), .second, .val (.long vj16), .second, .val (.int vi17), .val (.int vi18), .val (.int vi19), .val (.int vi20), .val (.ref b21), .unset, .unset, .unset, .unset] [(.ref b21)]))
      refine own_go (fun t_ k => XS.lload X25.here hx rfl (hb hby at_111) rfl k) ?_
      show WP p e below _ (T25.setTop (mkF m 113 #[.val (.long q1), .second, .val (.long q2), .second, .val (.long q3), .second, .val (.int p4), .val (.int p5), .val (.long vj4), .second, .val (.long vj8), .second, .val (.long vj16), .second, .val (.int vi17), .val (.int vi18), .val (.int vi19), .val (.int vi20), .val (.ref b21), .unset, .unset, .unset, .unset] [(.long vj4), (.ref b21)]))
      obtain ⟨cq63, kq63, q63a, q63b, q63c⟩ := isOf (T := T25) hZ e25 Pj25.1
      obtain ⟨_, _, ⟨T63, L63, k63, n63⟩, -, X63, ⟨Lc63, hQ63, l63, y63, z63⟩, st63⟩ := X25.virtualBack hx (y := (⟨"com/example/vestry/vestry/Longs", "add", "(J)V"⟩ : MethodName)) (z := (⟨"com/example/vestry/vestry/Longs", "add", "(J)V"⟩ : MethodName)) hown (mvT hZ (hw _ (List.mem_of_getElem? (i := 24) rfl))) (mvT hZ (hw _ (List.mem_of_getElem? (i := 25) rfl))) (notFace_of_selects (args := #[]) (mvT hZ (hw _ (List.mem_of_getElem? (i := 27) rfl)))) (mvT hZ (hw _ (List.mem_of_getElem? (i := 27) rfl))) (mvT hZ (hw _ (List.mem_of_getElem? (i := 26) rfl))) (by decide) (backOf (W := 0) (rm_add l Z a0 hw [] b21 vj4 t22 kk22 xs25 hj25 n0 Pj25 g_b21 gt22 (by first | decide | omega | (simp only [List.length_append, List.length_cons, List.length_nil]; omega))) hZ (hw _ (List.mem_of_getElem? (i := 28) rfl)) (hw _ (List.mem_of_getElem? (i := 9) rfl)) (by decide) (by decide)) q63a q63c (g := (mkF m 113 #[.val (.long q1), .second, .val (.long q2), .second, .val (.long q3), .second, .val (.int p4), .val (.int p5), .val (.long vj4), .second, .val (.long vj8), .second, .val (.long vj16), .second, .val (.int vi17), .val (.int vi18), .val (.int vi19), .val (.int vi20), .val (.ref b21), .unset, .unset, .unset, .unset] [(.long vj4), (.ref b21)])) rfl (by rw [hml]; rfl) (Steps.refl _) (argsL := [(.long vj4)]) (rest := []) (lenOf pd_6 rfl) rfl (by show 2 * 0 + _ ≤ _; exact Nat.le_of_eq rfl) (hb hby at_113) (fun _ _ => ⟨rfl, e25, (by decide : 2 + 0 ≤ _), (by decide : 1026 + 0 ≤ _)⟩)
      dsimp only [Pt.U, Pt.locs, Pt.cells, Pt.slots] at X63 l63 y63 z63 st63 hQ63
      subst l63 y63 z63
      obtain ⟨rfl, N63q, K63c, P63⟩ := hQ63
      have N63 := Fr.app N25 N63q
      replace X63 : Stand p l e room_1 s m _ below meth c T63 _ 2 1026 := X63
      refine own_go (fun t_ k => st63.trans k) ?_
      have K63 : Keep h0 T63.heap [] := Kj25.trans K63c (allS (Or.inr sz_b21) (allS (Or.inr szt22) all0))
      replace P63 : LG Z T63.heap b21 t22 kk22 (xs25 ++ [vj4]) := P63
      show WP p e below _ (T63.setTop (mkF m 116 #[.val (.long q1), .second, .val (.long q2), .second, .val (.long q3), .second, .val (.int p4), .val (.int p5), .val (.long vj4), .second, .val (.long vj8), .second, .val (.long vj16), .second, .val (.int vi17), .val (.int vi18), .val (.int vi19), .val (.int vi20), .val (.ref b21), .unset, .unset, .unset, .unset] []))
      exact J28 T63 _ X63 N63 T63.heap K63 _ (by rw [if_pos hc106_26]) (by first | omega | (simp only [List.length_append, List.length_cons, List.length_nil]; omega) | simp) P63 rfl
    · refine own_go (fun t_ k => XS.icmpYes X25.here hx rfl (pc0 := 106) (pc' := 116) rfl (hb hby at_106) rfl (flt hc106_26).2.2.2 (by decide) (by decide) k) ?_
      show WP p e below _ (T25.setTop (mkF m 116 #[.val (.long q1), .second, .val (.long q2), .second, .val (.long q3), .second, .val (.int p4), .val (.int p5), .val (.long vj4), .second, .val (.long vj8), .second, .val (.long vj16), .second, .val (.int vi17), .val (.int vi18), .val (.int vi19), .val (.int vi20), .val (.ref b21), .unset, .unset, .unset, .unset] []))
      exact J28 T25 _ X25 N25 hj25 Kj25 _ (by rw [if_neg hc106_26]) (by first | omega | (simp only [List.length_append, List.length_cons, List.length_nil]; omega) | simp) Pj25 e25
  by_cases hc93_23 : (0 : Int32) < vi17
  · refine own_go (fun t_ k => XS.ifNo X22.here hx rfl (hb hby at_93) rfl ((if0 _ _).trans (tlt hc93_23).2.2.2) k) ?_
    show WP p e below _ (T22.setTop (mkF m 96 #[.val (.long q1), .second, .val (.long q2), .second, .val (.long q3), .second, .val (.int p4), .val (.int p5), .val (.long vj4), .second, .val (.long vj8), .second, .val (.long vj16), .second, .val (.int vi17), .val (.int vi18), .val (.int vi19), .val (.int vi20), .val (.ref b21), .unset, .unset, .unset, .unset] []))
    refine own_go (fun t_ k => XS.aload X22.here hx rfl (hb hby at_96) rfl rfl k) ?_
    show WP p e below _ (T22.setTop (mkF m 98 #[.val (.long q1), .second, .val (.long q2), .second, .val (.long q3), .second, .val (.int p4), .val (.int p5), .val (.long vj4), .second, .val (.long vj8), .second, .val (.long vj16), .second, .val (.int vi17), .val (.int vi18), .val (.int vi19), .val (.int vi20), .val (.ref b21), .unset, .unset, .unset, .unset] [(.ref b21)]))
    refine own_go (fun t_ k => XS.lload X22.here hx rfl (hb hby at_98) rfl k) ?_
    show WP p e below _ (T22.setTop (mkF m 100 #[.val (.long q1), .second, .val (.long q2), .second, .val (.long q3), .second, .val (.int p4), .val (.int p5), .val (.long vj4), .second, .val (.long vj8), .second, .val (.long vj16), .second, .val (.int vi17), .val (.int vi18), .val (.int vi19), .val (.int vi20), .val (.ref b21), .unset, .unset, .unset, .unset] [(.long vj4), (.ref b21)]))
    obtain ⟨cq64, kq64, q64a, q64b, q64c⟩ := isOf (T := T22) hZ rfl P22.1
    obtain ⟨_, _, ⟨T64, L64, k64, n64⟩, -, X64, ⟨Lc64, hQ64, l64, y64, z64⟩, st64⟩ := X22.virtualBack hx (y := (⟨"com/example/vestry/vestry/Longs", "add", "(J)V"⟩ : MethodName)) (z := (⟨"com/example/vestry/vestry/Longs", "add", "(J)V"⟩ : MethodName)) hown (mvT hZ (hw _ (List.mem_of_getElem? (i := 24) rfl))) (mvT hZ (hw _ (List.mem_of_getElem? (i := 25) rfl))) (notFace_of_selects (args := #[]) (mvT hZ (hw _ (List.mem_of_getElem? (i := 27) rfl)))) (mvT hZ (hw _ (List.mem_of_getElem? (i := 27) rfl))) (mvT hZ (hw _ (List.mem_of_getElem? (i := 26) rfl))) (by decide) (backOf (W := 0) (rm_add l Z a0 hw [] b21 vj4 t22 kk22 ([] : List Int64) T22.heap n0 P22 g_b21 gt22 (by first | decide | omega | (simp only [List.length_append, List.length_cons, List.length_nil]; omega))) hZ (hw _ (List.mem_of_getElem? (i := 28) rfl)) (hw _ (List.mem_of_getElem? (i := 9) rfl)) (by decide) (by decide)) q64a q64c (g := (mkF m 100 #[.val (.long q1), .second, .val (.long q2), .second, .val (.long q3), .second, .val (.int p4), .val (.int p5), .val (.long vj4), .second, .val (.long vj8), .second, .val (.long vj16), .second, .val (.int vi17), .val (.int vi18), .val (.int vi19), .val (.int vi20), .val (.ref b21), .unset, .unset, .unset, .unset] [(.long vj4), (.ref b21)])) rfl (by rw [hml]; rfl) (Steps.refl _) (argsL := [(.long vj4)]) (rest := []) (lenOf pd_6 rfl) rfl (by show 2 * 0 + _ ≤ _; exact Nat.le_of_eq rfl) (hb hby at_100) (fun _ _ => ⟨rfl, rfl, (by decide : 2 + 0 ≤ _), (by decide : 1026 + 0 ≤ _)⟩)
    dsimp only [Pt.U, Pt.locs, Pt.cells, Pt.slots] at X64 l64 y64 z64 st64 hQ64
    subst l64 y64 z64
    obtain ⟨rfl, N64q, K64c, P64⟩ := hQ64
    have N64 := Fr.app N22 N64q
    replace X64 : Stand p l e room_1 s m _ below meth c T64 _ 2 1026 := X64
    refine own_go (fun t_ k => st64.trans k) ?_
    have K64 : Keep h0 T64.heap [] := K22.trans K64c (allS (Or.inr sz_b21) (allS (Or.inr szt22) all0))
    replace P64 : LG Z T64.heap b21 t22 kk22 [vj4] := P64
    show WP p e below _ (T64.setTop (mkF m 103 #[.val (.long q1), .second, .val (.long q2), .second, .val (.long q3), .second, .val (.int p4), .val (.int p5), .val (.long vj4), .second, .val (.long vj8), .second, .val (.long vj16), .second, .val (.int vi17), .val (.int vi18), .val (.int vi19), .val (.int vi20), .val (.ref b21), .unset, .unset, .unset, .unset] []))
    exact J25 T64 _ X64 N64 T64.heap K64 _ (by rw [if_pos hc93_23]) (by first | omega | (simp only [List.length_append, List.length_cons, List.length_nil]; omega) | simp) P64 rfl
  · refine own_go (fun t_ k => XS.ifYes X22.here hx rfl (pc0 := 93) (pc' := 103) rfl (hb hby at_93) rfl ((if0 _ _).trans (flt hc93_23).2.2.2) (by decide) (by decide) k) ?_
    show WP p e below _ (T22.setTop (mkF m 103 #[.val (.long q1), .second, .val (.long q2), .second, .val (.long q3), .second, .val (.int p4), .val (.int p5), .val (.long vj4), .second, .val (.long vj8), .second, .val (.long vj16), .second, .val (.int vi17), .val (.int vi18), .val (.int vi19), .val (.int vi20), .val (.ref b21), .unset, .unset, .unset, .unset] []))
    exact J25 T22 _ X22 N22 T22.heap K22 _ (by rw [if_neg hc93_23]) (by first | omega | (simp only [List.length_append, List.length_cons, List.length_nil]; omega) | simp) P22 rfl
set_option maxRecDepth 65536 in
set_option maxHeartbeats 40000000 in
theorem comes_1 {Post : Tables → Env → Array Value → State → Outcome → State → Prop} (hpost : ∀ tb e args s v u, (limb_1_1.after args s (.returned v) u = true ∧ limb_1_2.after args s (.returned v) u = true ∧ True) → FrameEnd s (.returned v) u (Jvm.fieldLocs frame_1_writes args s ++ Jvm.arrayLocs frame_1_arrays args s ++ Jvm.staticLocs frame_1_statics s) 16 2176 → Post tb e args s (.returned v) u) :
    ArmFor flags0 classFile x code maxLocals ret World_1 tables_1 room_1 Calls_1 rest_1 Pre_1 Post := by
  intro l hfl _ _ p e ha hc hk s m args below hf hA hF happ hP
  obtain ⟨hcalls, hrest, hpre⟩ := hP
  obtain ⟨-, -, -, hnamed, -, -, -, hat⟩ := (Spec.applies_iff hf).mp happ
  obtain ⟨hg, hn⟩ := and_e (Cond.before_iff.mp (show (Jvm.Cond.and given_1 narrow_1).before args s = true from hpre))
  obtain ⟨g1, g2⟩ := and_e hg
  obtain ⟨g3, g4⟩ := and_e g2
  obtain ⟨g5, g6⟩ := and_e g4
  obtain ⟨g7, g8⟩ := and_e g6
  obtain ⟨g9, g10⟩ := and_e g8
  obtain ⟨w0, w1, w2, w3, w4, rfl⟩ : ∃ w0 w1 w2 w3 w4 : Value, args = #[w0, w1, w2, w3, w4] := by
    have hs : args.size = 5 := by simpa [Cond.value, given_1] using g1
    obtain ⟨L⟩ := args
    match L, hs with
    | [w0, w1, w2, w3, w4], _ => exact ⟨w0, w1, w2, w3, w4, rfl⟩
  have hw := fun d (hd : d ∈ tables_1) => atoms_spec (ws := Jvm.Cond.code x code maxLocals ret :: tables_1) hat d (List.mem_cons_of_mem _ hd)
  have hfit : Fit s := fun {y c} hc i hi => by
    obtain ⟨ha, rfl⟩ := Array.getElem?_eq_some_iff.mp hc
    have q := List.all_eq_true.mp ((Array.all_eq_true_iff_forall_mem.mp hF) _ (Array.getElem_mem ha)) i (List.mem_range.mpr hi)
    simpa [Array.getElem?_eq_getElem hi] using q
  obtain ⟨i0, ei0⟩ := isL_v g3
  obtain rfl : w0 = (.long i0) := Option.some.inj ei0
  obtain ⟨i1, ei1⟩ := isL_v g5
  obtain rfl : w1 = (.long i1) := Option.some.inj ei1
  obtain ⟨i2, ei2⟩ := isL_v g7
  obtain rfl : w2 = (.long i2) := Option.some.inj ei2
  obtain ⟨i3, ei3⟩ := is_v g9
  obtain rfl : w3 = (.int i3) := Option.some.inj ei3
  obtain ⟨i4, ei4⟩ := is_v g10
  obtain rfl : w4 = (.int i4) := Option.some.inj ei4
  obtain ⟨n, o, h1, h2, h3, _, L, rfl, ⟨rfl, N⟩, hq⟩ := rm0 l s _ hw tables_1 i0 i1 i2 i3 i4 s.heap s.heap.size (Nat.le_refl _) p e ha hc hk s m _ below hf ((Spec.applies_iff_loose hf).mp happ).1 ⟨rfl, State.Warmed39.refl s, rfl⟩ trivial
  refine ⟨n, _, h1, h2, h3, hpost _ _ _ _ _ _ ⟨Cond.after_iff.mpr rfl, Cond.after_iff.mpr (eq_i res_at (Term.int_eval (1)) rfl), trivial⟩ ⟨hq.1, hq.2.1, (hq.2.2.sift fun y hy => Or.inr (N y hy)).mono (by decide) (by decide)⟩⟩
theorem main_1_1 : Claimed_1_1 := comes_1 fun _ _ _ _ _ _ h hF => ⟨h.1, hF⟩
theorem main_1_2 : Claimed_1_2 := comes_1 fun _ _ _ _ _ _ h hF => ⟨h.2.1, hF⟩
end Jvm.Pilot.@@N@@
namespace Jvm.Pilot.@@N@@
open Jvm Jvm.ClassFile Sem Op Lib Jvm.Free Jvm.Stand Jvm.Pilot.@@N@@.Jvm.D
/-! MADE BY PROGRAM (witnessworld.py) out of the Statement's table words and the real class files: 14 classes; the members and pool entries that the words name. The judged class is class 1, her method 1. -/
namespace start1
open Jvm.ClassFile
def u (s : String) : CpInfo := .utf8 (stringToUtf16 s)
/-- a pool by its gaps: so many unusable entries, then the entry; so many at the end -/
def gap : Nat → List CpInfo → List CpInfo
  | 0, r => r
  | n + 1, r => .unusable :: gap n r
def poolList (es : List (Nat × CpInfo)) (last : Nat) : List CpInfo := es.foldr (fun e r => gap e.1 (e.2 :: r)) (gap last [])
def pool (es : List (Nat × CpInfo)) (last : Nat) : Array CpInfo := ⟨poolList es last⟩
def fileOf (pool : Array CpInfo) (this : Nat) (attrs : Array Attribute := #[]) (ms : Array MethodInfo := #[]) (fl : Nat := 33) (sup : Nat := 0) (ifs : Array Nat := #[]) (fds : Array FieldInfo := #[]) : ClassFile where
  minorVersion := 0
  majorVersion := 65
  constantPool := pool
  accessFlags := fl
  thisClass := this
  superClass := sup
  interfaces := ifs
  fields := fds
  methods := ms
  attributes := attrs
def plain (name : String) (sup : Option ClassId) : Class where
  name := name
  kind := .ordinary
  loader := none
  accessFlags := 33
  super := sup
  interfaces := #[]
  cf := none
  fields := #[]
  methods := #[]
  instanceTypes := #[]
  staticTypes := #[]
  resolved := #[]
  callSites := []
  init := .initialized
  statics := none
  mirror := none

def pool0 : Array CpInfo := pool [(5, u "<init>"), (0, u "()V"), (1, .class_ 10), (1, u "java/lang/Object")] 113

def k0c0 : Code := { maxStack := 0, maxLocals := 1, code := object_method_1_code, exceptionTable := #[], attributes := #[] }
def k0m0 : Method := { name := "<init>", desc := "()V", sig := { parameters := [], returnType := none }, accessFlags := 1, code := some k0c0 }
/-- java/lang/Object -/
def k0 : Class := { plain "java/lang/Object" none with
  accessFlags := 33
  interfaces := #[]
  cf := some (fileOf pool0 8 #[] #[{ accessFlags := 1, nameIndex := 5, descriptorIndex := 6, attributes := #[] }] 33 0 #[] #[])
  fields := #[]
  methods := #[k0m0]
  instanceTypes := #[]
  staticTypes := #[]
  resolved := Array.replicate 124 none
  statics := none }

def pool1 : Array CpInfo := pool [(2, .class_ 4), (0, .nameAndType 5 6), (0, u "java/lang/Object"), (0, u "<init>"), (0, u "()V"), (0, .methodref 8 9), (0, .class_ 10), (0, .nameAndType 11 12), (0, u "java/lang/Math"), (0, u "min"), (0, u "(JJ)J"), (0, .methodref 8 14), (0, .nameAndType 15 12), (0, u "max"), (0, .class_ 17), (0, u "com/example/vestry/vestry/Longs"), (0, .methodref 16 3), (0, .methodref 16 20), (0, .nameAndType 21 22), (0, u "add"), (0, u "(J)V"), (0, .integer 2147483647), (0, .methodref 16 25), (0, .nameAndType 26 27), (0, u "runStart"), (0, u "(I)I"), (0, .class_ 29), (0, u "com/example/vestry/vestry/LongsRunStartPinLaw"), (2, u "law"), (0, u "(JJJII)Z")] 3

def k1m0 : Method := { name := "<init>", desc := "()V", sig := { parameters := [], returnType := none }, accessFlags := 1, code := none }
def k1c1 : Code := { maxStack := 6, maxLocals := 23, code := code, exceptionTable := #[], attributes := #[] }
def k1m1 : Method := { name := "law", desc := "(JJJII)Z", sig := { parameters := [.long, .long, .long, .int, .int], returnType := some .boolean }, accessFlags := 9, code := some k1c1 }
/-- com/example/vestry/vestry/LongsRunStartPinLaw -/
def k1 : Class := { plain "com/example/vestry/vestry/LongsRunStartPinLaw" (some 0) with
  accessFlags := 49
  interfaces := #[]
  cf := some (fileOf pool1 28 #[] #[{ accessFlags := 1, nameIndex := 5, descriptorIndex := 6, attributes := #[] }, { accessFlags := 9, nameIndex := 32, descriptorIndex := 33, attributes := #[] }] 49 2 #[] #[])
  fields := #[]
  methods := #[k1m0, k1m1]
  instanceTypes := #[]
  staticTypes := #[]
  resolved := Array.replicate 37 none
  statics := none }

def pool2 : Array CpInfo := pool [(1, .class_ 2), (0, u "java/lang/Math"), (1, .class_ 6), (1, u "java/lang/Object"), (0, u "<init>"), (0, u "()V"), (89, .class_ 100), (1, u "java/lang/Math$RandomNumberGeneratorHolder"), (20, u "(JJ)J"), (50, u "negativeZeroFloatBits"), (0, u "J"), (2, u "negativeZeroDoubleBits"), (21, u "max"), (2, u "min"), (43, u "$assertionsDisabled"), (0, u "Z"), (91, u "twoToTheDoubleScaleDown"), (0, u "D"), (4, u "twoToTheDoubleScaleUp"), (9, u "E"), (3, u "PI"), (2, u "TAU"), (2, u "DEGREES_TO_RADIANS"), (0, u "RADIANS_TO_DEGREES")] 94

def k2m0 : Method := { name := "<init>", desc := "()V", sig := { parameters := [], returnType := none }, accessFlags := 2, code := none }
def k2c1 : Code := { maxStack := 4, maxLocals := 4, code := jdk_29_method_66_code, exceptionTable := #[], attributes := #[] }
def k2m1 : Method := { name := "max", desc := "(JJ)J", sig := { parameters := [.long, .long], returnType := some .long }, accessFlags := 9, code := some k2c1 }
def k2c2 : Code := { maxStack := 4, maxLocals := 4, code := jdk_29_method_70_code, exceptionTable := #[], attributes := #[] }
def k2m2 : Method := { name := "min", desc := "(JJ)J", sig := { parameters := [.long, .long], returnType := some .long }, accessFlags := 9, code := some k2c2 }
/-- java/lang/Math -/
def k2 : Class := { plain "java/lang/Math" (some 0) with
  accessFlags := 49
  interfaces := #[]
  cf := some (fileOf pool2 1 #[.nestMembers #[98]] #[{ accessFlags := 2, nameIndex := 7, descriptorIndex := 8, attributes := #[] }, { accessFlags := 9, nameIndex := 198, descriptorIndex := 121, attributes := #[] }, { accessFlags := 9, nameIndex := 201, descriptorIndex := 121, attributes := #[] }] 49 4 #[] #[{ accessFlags := 25, nameIndex := 354, descriptorIndex := 339, attributes := #[] }, { accessFlags := 25, nameIndex := 358, descriptorIndex := 339, attributes := #[] }, { accessFlags := 25, nameIndex := 361, descriptorIndex := 339, attributes := #[] }, { accessFlags := 26, nameIndex := 364, descriptorIndex := 339, attributes := #[] }, { accessFlags := 26, nameIndex := 365, descriptorIndex := 339, attributes := #[] }, { accessFlags := 26, nameIndex := 172, descriptorIndex := 173, attributes := #[] }, { accessFlags := 26, nameIndex := 176, descriptorIndex := 173, attributes := #[] }, { accessFlags := 8, nameIndex := 344, descriptorIndex := 339, attributes := #[] }, { accessFlags := 8, nameIndex := 338, descriptorIndex := 339, attributes := #[] }, { accessFlags := 4120, nameIndex := 245, descriptorIndex := 246, attributes := #[] }])
  fields := #[{ name := "E", type := .double, accessFlags := 25, slot := 0, constantValue := 0 }, { name := "PI", type := .double, accessFlags := 25, slot := 1, constantValue := 0 }, { name := "TAU", type := .double, accessFlags := 25, slot := 2, constantValue := 0 }, { name := "DEGREES_TO_RADIANS", type := .double, accessFlags := 26, slot := 3, constantValue := 0 }, { name := "RADIANS_TO_DEGREES", type := .double, accessFlags := 26, slot := 4, constantValue := 0 }, { name := "negativeZeroFloatBits", type := .long, accessFlags := 26, slot := 5, constantValue := 0 }, { name := "negativeZeroDoubleBits", type := .long, accessFlags := 26, slot := 6, constantValue := 0 }, { name := "twoToTheDoubleScaleUp", type := .double, accessFlags := 8, slot := 7, constantValue := 0 }, { name := "twoToTheDoubleScaleDown", type := .double, accessFlags := 8, slot := 8, constantValue := 0 }, { name := "$assertionsDisabled", type := .boolean, accessFlags := 4120, slot := 9, constantValue := 0 }]
  methods := #[k2m0, k2m1, k2m2]
  instanceTypes := #[]
  staticTypes := #[.double, .double, .double, .double, .double, .long, .long, .double, .double, .boolean]
  resolved := Array.replicate 460 none
  statics := none }

def pool3 : Array CpInfo := pool [(3, .class_ 4), (0, u "com/example/vestry/vestry/Longs"), (0, .methodref 3 6), (0, .nameAndType 7 8), (0, u "<init>"), (0, u "([JI)V"), (0, .methodref 10 11), (0, .class_ 12), (0, .nameAndType 7 13), (0, u "java/lang/Object"), (0, u "()V"), (0, .fieldref 3 15), (0, .nameAndType 16 17), (0, u "values"), (0, u "[J"), (0, .fieldref 3 19), (0, .nameAndType 20 21), (0, u "size"), (0, u "I"), (0, .integer 2147483639), (7, .long 2), (1, .long 1024), (1, .methodref 35 36), (0, .class_ 37), (0, .nameAndType 38 39), (0, u "java/lang/Math"), (0, u "max"), (0, u "(JJ)J"), (0, .long 2147483639), (1, .methodref 35 43), (0, .nameAndType 44 39), (0, u "min"), (6, .methodref 52 53), (0, .class_ 54), (0, .nameAndType 55 56), (0, u "java/util/Objects"), (0, u "checkIndex"), (0, u "(II)I"), (0, .methodref 3 58), (0, .nameAndType 59 60), (0, u "get"), (0, u "(I)J"), (4, u "MOST"), (1, u "INITIAL"), (3, u "add"), (0, u "(J)V"), (2, u "runStart"), (0, u "(I)I")] 4

def k3c0 : Code := { maxStack := 3, maxLocals := 1, code := prog_23_method_1_code, exceptionTable := #[], attributes := #[] }
def k3m0 : Method := { name := "<init>", desc := "()V", sig := { parameters := [], returnType := none }, accessFlags := 0, code := some k3c0 }
def k3c1 : Code := { maxStack := 2, maxLocals := 3, code := prog_23_method_2_code, exceptionTable := #[], attributes := #[] }
def k3m1 : Method := { name := "<init>", desc := "([JI)V", sig := { parameters := [(.array .long), .int], returnType := none }, accessFlags := 2, code := some k3c1 }
def k3c2 : Code := { maxStack := 6, maxLocals := 5, code := prog_23_method_3_code, exceptionTable := #[], attributes := #[] }
def k3m2 : Method := { name := "add", desc := "(J)V", sig := { parameters := [.long], returnType := none }, accessFlags := 0, code := some k3c2 }
def k3c3 : Code := { maxStack := 2, maxLocals := 2, code := prog_23_method_4_code, exceptionTable := #[], attributes := #[] }
def k3m3 : Method := { name := "get", desc := "(I)J", sig := { parameters := [.int], returnType := some .long }, accessFlags := 0, code := some k3c3 }
def k3c4 : Code := { maxStack := 4, maxLocals := 7, code := prog_23_method_6_code, exceptionTable := #[], attributes := #[] }
def k3m4 : Method := { name := "runStart", desc := "(I)I", sig := { parameters := [.int], returnType := some .int }, accessFlags := 0, code := some k3c4 }
/-- com/example/vestry/vestry/Longs -/
def k3 : Class := { plain "com/example/vestry/vestry/Longs" (some 0) with
  accessFlags := 32
  interfaces := #[]
  cf := some (fileOf pool3 3 #[] #[{ accessFlags := 0, nameIndex := 7, descriptorIndex := 13, attributes := #[] }, { accessFlags := 2, nameIndex := 7, descriptorIndex := 8, attributes := #[] }, { accessFlags := 0, nameIndex := 71, descriptorIndex := 72, attributes := #[] }, { accessFlags := 0, nameIndex := 59, descriptorIndex := 60, attributes := #[] }, { accessFlags := 0, nameIndex := 75, descriptorIndex := 76, attributes := #[] }] 32 10 #[] #[{ accessFlags := 24, nameIndex := 65, descriptorIndex := 21, attributes := #[] }, { accessFlags := 26, nameIndex := 67, descriptorIndex := 21, attributes := #[] }, { accessFlags := 2, nameIndex := 16, descriptorIndex := 17, attributes := #[] }, { accessFlags := 2, nameIndex := 20, descriptorIndex := 21, attributes := #[] }])
  fields := #[{ name := "MOST", type := .int, accessFlags := 24, slot := 0, constantValue := 0 }, { name := "INITIAL", type := .int, accessFlags := 26, slot := 1, constantValue := 0 }, { name := "values", type := (.array .long), accessFlags := 2, slot := 0, constantValue := 0 }, { name := "size", type := .int, accessFlags := 2, slot := 1, constantValue := 0 }]
  methods := #[k3m0, k3m1, k3m2, k3m3, k3m4]
  instanceTypes := #[(.array .long), .int]
  staticTypes := #[.int, .int]
  resolved := Array.replicate 81 none
  statics := none }

def pool4 : Array CpInfo := pool [(2, .class_ 4), (1, u "java/lang/Object"), (0, u "<init>"), (0, u "()V"), (35, .class_ 44), (1, u "java/util/Objects"), (60, .methodref 106 107), (0, .class_ 108), (0, .nameAndType 109 110), (0, u "jdk/internal/util/Preconditions"), (0, u "checkIndex"), (0, u "(IILjava/util/function/BiFunction;)I"), (60, u "(II)I")] 12

def k4m0 : Method := { name := "<init>", desc := "()V", sig := { parameters := [], returnType := none }, accessFlags := 2, code := none }
def k4c1 : Code := { maxStack := 3, maxLocals := 2, code := jdk_31_method_17_code, exceptionTable := #[], attributes := #[] }
def k4m1 : Method := { name := "checkIndex", desc := "(II)I", sig := { parameters := [.int, .int], returnType := some .int }, accessFlags := 9, code := some k4c1 }
/-- java/util/Objects -/
def k4 : Class := { plain "java/util/Objects" (some 0) with
  accessFlags := 49
  interfaces := #[]
  cf := some (fileOf pool4 42 #[] #[{ accessFlags := 2, nameIndex := 5, descriptorIndex := 6, attributes := #[] }, { accessFlags := 9, nameIndex := 109, descriptorIndex := 171, attributes := #[] }] 49 2 #[] #[])
  fields := #[]
  methods := #[k4m0, k4m1]
  instanceTypes := #[]
  staticTypes := #[]
  resolved := Array.replicate 184 none
  statics := none }

def pool5 : Array CpInfo := pool [(2, .class_ 4), (1, u "java/lang/Object"), (0, u "<init>"), (0, u "()V"), (17, .class_ 26), (1, u "jdk/internal/util/Preconditions"), (6, u "checkIndex"), (21, .class_ 56), (0, u "jdk/internal/util/Preconditions$4"), (57, .class_ 115), (0, u "jdk/internal/util/Preconditions$1"), (7, u "SIOOBE_FORMATTER"), (0, u "Ljava/util/function/BiFunction;"), (0, .class_ 126), (0, u "jdk/internal/util/Preconditions$2"), (3, u "AIOOBE_FORMATTER"), (0, .class_ 132), (0, u "jdk/internal/util/Preconditions$3"), (3, u "IOOBE_FORMATTER"), (41, u "(IILjava/util/function/BiFunction;)I")] 15

def k5m0 : Method := { name := "<init>", desc := "()V", sig := { parameters := [], returnType := none }, accessFlags := 1, code := none }
def k5c1 : Code := { maxStack := 3, maxLocals := 3, code := jdk_41_method_11_code, exceptionTable := #[], attributes := #[] }
def k5m1 : Method := { name := "checkIndex", desc := "(IILjava/util/function/BiFunction;)I", sig := { parameters := [.int, .int, (.object "java/util/function/BiFunction")], returnType := some .int }, accessFlags := 9, code := some k5c1 }
/-- jdk/internal/util/Preconditions -/
def k5 : Class := { plain "jdk/internal/util/Preconditions" (some 0) with
  accessFlags := 33
  interfaces := #[]
  cf := some (fileOf pool5 24 #[.nestMembers #[55, 131, 125, 114]] #[{ accessFlags := 1, nameIndex := 5, descriptorIndex := 6, attributes := #[] }, { accessFlags := 9, nameIndex := 33, descriptorIndex := 178, attributes := #[] }] 33 2 #[] #[{ accessFlags := 25, nameIndex := 123, descriptorIndex := 124, attributes := #[] }, { accessFlags := 25, nameIndex := 130, descriptorIndex := 124, attributes := #[] }, { accessFlags := 25, nameIndex := 136, descriptorIndex := 124, attributes := #[] }])
  fields := #[{ name := "SIOOBE_FORMATTER", type := (.object "java/util/function/BiFunction"), accessFlags := 25, slot := 0, constantValue := 0 }, { name := "AIOOBE_FORMATTER", type := (.object "java/util/function/BiFunction"), accessFlags := 25, slot := 1, constantValue := 0 }, { name := "IOOBE_FORMATTER", type := (.object "java/util/function/BiFunction"), accessFlags := 25, slot := 2, constantValue := 0 }]
  methods := #[k5m0, k5m1]
  instanceTypes := #[]
  staticTypes := #[(.object "java/util/function/BiFunction"), (.object "java/util/function/BiFunction"), (.object "java/util/function/BiFunction")]
  resolved := Array.replicate 194 none
  statics := none }

def pool6 : Array CpInfo := pool [(1, u "java/lang/Cloneable"), (0, .class_ 1), (0, u "java/lang/Object"), (0, .class_ 3)] 3

/-- java/lang/Cloneable -/
def k6 : Class := { plain "java/lang/Cloneable" (some 0) with
  accessFlags := 1537
  interfaces := #[]
  cf := some (fileOf pool6 2 #[] #[] 1537 4 #[] #[])
  fields := #[]
  methods := #[]
  instanceTypes := #[]
  staticTypes := #[]
  resolved := Array.replicate 8 none
  statics := none }

def pool7 : Array CpInfo := pool [(1, u "java/io/Serializable"), (0, .class_ 1), (0, u "java/lang/Object"), (0, .class_ 3)] 3

/-- java/io/Serializable -/
def k7 : Class := { plain "java/io/Serializable" (some 0) with
  accessFlags := 1537
  interfaces := #[]
  cf := some (fileOf pool7 2 #[] #[] 1537 4 #[] #[])
  fields := #[]
  methods := #[]
  instanceTypes := #[]
  staticTypes := #[]
  resolved := Array.replicate 8 none
  statics := none }

/-- the primitive byte -/
def k8 : Class := { plain "byte" none with kind := .primitive 'B', accessFlags := 0x411 }
/-- [B -/
def k9 : Class := { plain "[B" (some 0) with kind := .array 8 .byte, interfaces := #[6, 7], accessFlags := 1041 }

/-- the primitive int -/
def k10 : Class := { plain "int" none with kind := .primitive 'I', accessFlags := 0x411 }
/-- [I -/
def k11 : Class := { plain "[I" (some 0) with kind := .array 10 .int, interfaces := #[6, 7], accessFlags := 1041 }

/-- the primitive long -/
def k12 : Class := { plain "long" none with kind := .primitive 'J', accessFlags := 0x411 }
/-- [J -/
def k13 : Class := { plain "[J" (some 0) with kind := .array 12 .long, interfaces := #[6, 7], accessFlags := 1041 }

def heap : Heap := #[]
def classes : Array Class := #[k0, k1, k2, k3, k4, k5, k6, k7, k8, k9, k10, k11, k12, k13]
def interned : List (Array UInt16 × Addr) := []
def slotsUsed : Nat := 0
def theMethod : MethodId := ⟨1, 1⟩
def args0 : Array Value := #[.long 5, .long 6, .long 7, .int 1, .int 5]
def aboutOver (below : List Frame) : State where
  vm := { classes := classes, interned := interned.toArray }
  heap := heap
  slotsUsed := slotsUsed
  threads := #[{ frames := .invoking theMethod args0 :: below }]
def below0 : List Frame := [.native { method := ⟨0, 0⟩, args := #[] }]
def about1 : State := aboutOver below0
def p0 : Program := .bare "" "" ""
def e0 : Env := launch0.env 0 0 0
theorem w_frames : about1.frames = Frame.invoking theMethod args0 :: below0 := rfl
set_option maxRecDepth 65536 in
theorem w_args : argsFit about1.vm theMethod args0 = true := by decide +kernel
set_option maxRecDepth 65536 in
theorem w_heap : heapFits about1 = true := by decide +kernel
set_option maxRecDepth 65536 in
theorem w_runnable : about1.curStatus? = some .runnable := by decide +kernel
set_option maxRecDepth 65536 in
theorem w_alone : about1.alone = true := by decide +kernel
set_option maxRecDepth 65536 in
theorem w_named : about1.methodNamed? x = some theMethod := by decide +kernel
set_option maxRecDepth 65536 in
theorem w_hears : about1.hears theMethod below0 = true := by decide +kernel
set_option maxRecDepth 65536 in
theorem w_ripe : about1.ripe theMethod args0 below0 = true := by decide +kernel
theorem w_running : about1.status = .running := rfl
set_option maxRecDepth 65536 in
theorem w_room : about1.hasRoom e0.platform room_1 = true :=
  launch0.hasRoom_least _ room_1 (by decide +kernel) (by decide +kernel) (by decide +kernel) (by decide +kernel) (by decide +kernel) (by decide +kernel)
theorem allAtoms_all (ts : List Jvm.Cond) (a : Array Jvm.Value) (st : Jvm.State) : (allAtoms ts).before a st = ts.all (fun c => c.before a st) := by
  induction ts with
  | nil => rfl
  | cons c t ih =>
    show (Jvm.Cond.and c (allAtoms t)).before a st = _
    rw [Jvm.Cond.before_and, ih, List.all_cons]
def words1 : List Jvm.Cond := Jvm.Cond.code x code maxLocals ret :: tables_1
/-- a 'code' word, met by the world's own term for the bytes: nothing is compared byte by byte -/
theorem code_word {y : MethodName} {bytes : ByteArray} {mx : Nat} {rt : Option FieldType} {a : Array Value} {s : State} {m : MethodId} {meth : Method} {c : Code} (h1 : s.methodNamed? y = some m) (h2 : s.vm.method? m = some meth) (h3 : meth.code = some c) (h4 : c.code = bytes)
    (h5 : (c.maxLocals == mx && c.exceptionTable.isEmpty && decide (c.maxStack ≤ mostOperands) && decide (meth.sig.returnType = rt) && !meth.locks && decide (parseMethodDescriptor y.desc = some meth.sig)) = true) : (Jvm.Cond.code y bytes mx rt).before a s = true := by
  simp only [Bool.and_eq_true, beq_iff_eq, Bool.not_eq_true', decide_eq_true_eq] at h5
  obtain ⟨⟨⟨⟨⟨g1, g2⟩, g3⟩, g4⟩, g5⟩, g6⟩ := h5
  simp [Cond.before, Cond.holds, Cond.value, h1, h2, h3, h4, g1, g2, g3, g4, g5, g6]
def isCode : Jvm.Cond → Bool
  | .code _ _ _ _ => true
  | _ => false
theorem all_split {L : List Jvm.Cond} {P : Jvm.Cond → Bool} (h1 : L.all (fun c => isCode c || P c) = true) (h2 : ∀ c ∈ L.filter isCode, P c = true) : L.all P = true := by
  refine List.all_eq_true.mpr fun c hc => ?_
  have h := List.all_eq_true.mp h1 c hc
  rcases Bool.eq_false_or_eq_true (isCode c) with hi | hi
  · exact h2 c (List.mem_filter.mpr ⟨hc, hi⟩)
  · simpa [hi] using h
set_option maxRecDepth 65536 in
theorem w_c0 : (Jvm.Cond.code x code maxLocals ret).before args0 about1 = true := code_word (m := ⟨1, 1⟩) (meth := k1m1) (c := k1c1) (by decide +kernel) rfl rfl rfl (by decide +kernel)
set_option maxRecDepth 65536 in
theorem w_c1 : (Jvm.Cond.code ({ cls := "java/lang/Math", name := "min", desc := "(JJ)J" } : Jvm.MethodName) jdk_29_method_70_code (4 : Nat) (Option.some Jvm.ClassFile.FieldType.long)).before args0 about1 = true := code_word (m := ⟨2, 2⟩) (meth := k2m2) (c := k2c2) (by decide +kernel) rfl rfl rfl (by decide +kernel)
set_option maxRecDepth 65536 in
theorem w_c2 : (Jvm.Cond.code ({ cls := "java/lang/Math", name := "max", desc := "(JJ)J" } : Jvm.MethodName) jdk_29_method_66_code (4 : Nat) (Option.some Jvm.ClassFile.FieldType.long)).before args0 about1 = true := code_word (m := ⟨2, 1⟩) (meth := k2m1) (c := k2c1) (by decide +kernel) rfl rfl rfl (by decide +kernel)
set_option maxRecDepth 65536 in
theorem w_c3 : (Jvm.Cond.code ({ cls := "com/example/vestry/vestry/Longs", name := "<init>", desc := "()V" } : Jvm.MethodName) prog_23_method_1_code (1 : Nat) (Option.none : Option Jvm.ClassFile.FieldType)).before args0 about1 = true := code_word (m := ⟨3, 0⟩) (meth := k3m0) (c := k3c0) (by decide +kernel) rfl rfl rfl (by decide +kernel)
set_option maxRecDepth 65536 in
theorem w_c4 : (Jvm.Cond.code ({ cls := "com/example/vestry/vestry/Longs", name := "<init>", desc := "([JI)V" } : Jvm.MethodName) prog_23_method_2_code (3 : Nat) (Option.none : Option Jvm.ClassFile.FieldType)).before args0 about1 = true := code_word (m := ⟨3, 1⟩) (meth := k3m1) (c := k3c1) (by decide +kernel) rfl rfl rfl (by decide +kernel)
set_option maxRecDepth 65536 in
theorem w_c5 : (Jvm.Cond.code ({ cls := "java/lang/Object", name := "<init>", desc := "()V" } : Jvm.MethodName) object_method_1_code (1 : Nat) (Option.none : Option Jvm.ClassFile.FieldType)).before args0 about1 = true := code_word (m := ⟨0, 0⟩) (meth := k0m0) (c := k0c0) (by decide +kernel) rfl rfl rfl (by decide +kernel)
set_option maxRecDepth 65536 in
theorem w_c6 : (Jvm.Cond.code ({ cls := "com/example/vestry/vestry/Longs", name := "add", desc := "(J)V" } : Jvm.MethodName) prog_23_method_3_code (5 : Nat) (Option.none : Option Jvm.ClassFile.FieldType)).before args0 about1 = true := code_word (m := ⟨3, 2⟩) (meth := k3m2) (c := k3c2) (by decide +kernel) rfl rfl rfl (by decide +kernel)
set_option maxRecDepth 65536 in
theorem w_c7 : (Jvm.Cond.code ({ cls := "com/example/vestry/vestry/Longs", name := "runStart", desc := "(I)I" } : Jvm.MethodName) prog_23_method_6_code (7 : Nat) (Option.some Jvm.ClassFile.FieldType.int)).before args0 about1 = true := code_word (m := ⟨3, 4⟩) (meth := k3m4) (c := k3c4) (by decide +kernel) rfl rfl rfl (by decide +kernel)
set_option maxRecDepth 65536 in
theorem w_c8 : (Jvm.Cond.code ({ cls := "com/example/vestry/vestry/Longs", name := "get", desc := "(I)J" } : Jvm.MethodName) prog_23_method_4_code (2 : Nat) (Option.some Jvm.ClassFile.FieldType.long)).before args0 about1 = true := code_word (m := ⟨3, 3⟩) (meth := k3m3) (c := k3c3) (by decide +kernel) rfl rfl rfl (by decide +kernel)
set_option maxRecDepth 65536 in
theorem w_c9 : (Jvm.Cond.code ({ cls := "java/util/Objects", name := "checkIndex", desc := "(II)I" } : Jvm.MethodName) jdk_31_method_17_code (2 : Nat) (Option.some Jvm.ClassFile.FieldType.int)).before args0 about1 = true := code_word (m := ⟨4, 1⟩) (meth := k4m1) (c := k4c1) (by decide +kernel) rfl rfl rfl (by decide +kernel)
set_option maxRecDepth 65536 in
theorem w_c10 : (Jvm.Cond.code ({ cls := "jdk/internal/util/Preconditions", name := "checkIndex", desc := "(IILjava/util/function/BiFunction;)I" } : Jvm.MethodName) jdk_41_method_11_code (3 : Nat) (Option.some Jvm.ClassFile.FieldType.int)).before args0 about1 = true := code_word (m := ⟨5, 1⟩) (meth := k5m1) (c := k5c1) (by decide +kernel) rfl rfl rfl (by decide +kernel)
def codes1 : List Jvm.Cond := [Jvm.Cond.code x code maxLocals ret, Jvm.Cond.code ({ cls := "java/lang/Math", name := "min", desc := "(JJ)J" } : Jvm.MethodName) jdk_29_method_70_code (4 : Nat) (Option.some Jvm.ClassFile.FieldType.long), Jvm.Cond.code ({ cls := "java/lang/Math", name := "max", desc := "(JJ)J" } : Jvm.MethodName) jdk_29_method_66_code (4 : Nat) (Option.some Jvm.ClassFile.FieldType.long), Jvm.Cond.code ({ cls := "com/example/vestry/vestry/Longs", name := "<init>", desc := "()V" } : Jvm.MethodName) prog_23_method_1_code (1 : Nat) (Option.none : Option Jvm.ClassFile.FieldType), Jvm.Cond.code ({ cls := "com/example/vestry/vestry/Longs", name := "<init>", desc := "([JI)V" } : Jvm.MethodName) prog_23_method_2_code (3 : Nat) (Option.none : Option Jvm.ClassFile.FieldType), Jvm.Cond.code ({ cls := "java/lang/Object", name := "<init>", desc := "()V" } : Jvm.MethodName) object_method_1_code (1 : Nat) (Option.none : Option Jvm.ClassFile.FieldType), Jvm.Cond.code ({ cls := "com/example/vestry/vestry/Longs", name := "add", desc := "(J)V" } : Jvm.MethodName) prog_23_method_3_code (5 : Nat) (Option.none : Option Jvm.ClassFile.FieldType), Jvm.Cond.code ({ cls := "com/example/vestry/vestry/Longs", name := "runStart", desc := "(I)I" } : Jvm.MethodName) prog_23_method_6_code (7 : Nat) (Option.some Jvm.ClassFile.FieldType.int), Jvm.Cond.code ({ cls := "com/example/vestry/vestry/Longs", name := "get", desc := "(I)J" } : Jvm.MethodName) prog_23_method_4_code (2 : Nat) (Option.some Jvm.ClassFile.FieldType.long), Jvm.Cond.code ({ cls := "java/util/Objects", name := "checkIndex", desc := "(II)I" } : Jvm.MethodName) jdk_31_method_17_code (2 : Nat) (Option.some Jvm.ClassFile.FieldType.int), Jvm.Cond.code ({ cls := "jdk/internal/util/Preconditions", name := "checkIndex", desc := "(IILjava/util/function/BiFunction;)I" } : Jvm.MethodName) jdk_41_method_11_code (3 : Nat) (Option.some Jvm.ClassFile.FieldType.int)]
set_option maxRecDepth 65536 in
theorem codes_eq : words1.filter isCode = codes1 := rfl
theorem w_codes : ∀ c ∈ words1.filter isCode, c.before args0 about1 = true := by
  rw [codes_eq]
  intro c hc
  simp only [codes1, List.mem_cons, List.not_mem_nil, or_false] at hc
  rcases hc with rfl | rfl | rfl | rfl | rfl | rfl | rfl | rfl | rfl | rfl | rfl
  · exact w_c0
  · exact w_c1
  · exact w_c2
  · exact w_c3
  · exact w_c4
  · exact w_c5
  · exact w_c6
  · exact w_c7
  · exact w_c8
  · exact w_c9
  · exact w_c10
set_option maxRecDepth 65536 in
theorem w_t1 : (words1.take 24).all (fun c => isCode c || c.before args0 about1) = true := by decide +kernel
set_option maxRecDepth 65536 in
theorem w_t2 : ((words1.drop 24).take 24).all (fun c => isCode c || c.before args0 about1) = true := by decide +kernel
set_option maxRecDepth 65536 in
theorem w_t3 : ((words1.drop 24).drop 24).all (fun c => isCode c || c.before args0 about1) = true := by decide +kernel
theorem w_tables : (allAtoms (Jvm.Cond.code x code maxLocals ret :: tables_1)).before args0 about1 = true := by
  rw [allAtoms_all]
  show words1.all (fun c => c.before args0 about1) = true
  refine all_split ?_ w_codes
  rw [← List.take_append_drop 24 words1, List.all_append, w_t1, ← List.take_append_drop 24 (words1.drop 24), List.all_append, w_t2, w_t3]
  rfl
set_option maxRecDepth 65536 in
theorem w_case : (Jvm.Cond.and given_1 narrow_1).before args0 about1 = true := by decide +kernel
theorem w_applies : (headSpec (Jvm.Cond.code x code maxLocals ret :: tables_1) room_1).applies x e0.platform about1 = true :=
  (Spec.applies_iff w_frames).mpr ⟨w_running, w_runnable, w_alone, w_named, w_hears, w_ripe, w_room, w_tables⟩
theorem atStart : AtStart classFile x code maxLocals ret World_1 tables_1 room_1 Calls_1 rest_1 Pre_1 launch0 p0 e0 about1 theMethod args0 below0 :=
  ⟨lists_1, trivial, launch0.admits_env _ _ _, launch0.least_env, fairChoices_fair.cas, fairChoices_fair.clock, w_frames, w_args, w_heap, w_applies, trivial, trivial, w_case⟩
end start1
theorem witness_1 : WitnessClaimed_1 := ⟨start1.p0, start1.e0, start1.about1, start1.theMethod, start1.args0, start1.below0, start1.atStart⟩
end Jvm.Pilot.@@N@@
