import JvmDerived
import JvmDerived.Pilot.@@N@@Statement
import JvmDerived.Pilot.@@N@@Code
set_option linter.unusedVariables false
set_option linter.unusedSimpArgs false
namespace Jvm.Pilot.@@N@@
open Jvm Jvm.ClassFile Sem Op Lib Jvm.Free Jvm.Stand Jvm.LawKit Jvm.RoadKit Bundle Jvm.Pilot.@@N@@.Jvm.D
/-! The end of a walk, as a goal: from U the run ends, and G holds of the end. -/
def WP (p : Program) (e : Env) (below : List Frame) (G : State → Outcome → Prop) (U : State) : Prop :=
  ∃ s₂ o, Steps p.tables e below U s₂ ∧ s₂.status = .running ∧ Ended s₂ below o ∧ G s₂ o
def GG (Q : Option Value → Heap → List Loc → Prop) (s : State) (k n : Nat) : State → Outcome → Prop :=
  fun t o => ∃ v L, o = .returned v ∧ Q v t.heap L ∧ FrameEnd s o t L k n
theorem own_go {p : Program} {e : Env} {below : List Frame} {G : State → Outcome → Prop} {U V : State} (h : ∀ t, Steps p.tables e below V t → Steps p.tables e below U t) (w : WP p e below G V) : WP p e below G U := by
  obtain ⟨t, o, h1, h2⟩ := w
  exact ⟨t, o, h _ h1, h2⟩
/-- what a body that writes nothing leaves -/
def PQ (h0 : Heap) (n0 : Nat) (w : Value) (v : Option Value) (h : Heap) (L : List Loc) : Prop := v = some w ∧ Fr n0 L ∧ h = h0
/-- what the law leaves -/
def Q0 (n0 : Nat) (v : Option Value) (h : Heap) (L : List Loc) : Prop := v = some (.int 1) ∧ Fr n0 L
section Own
variable {p : Program} {l : Launch} {e : Env} {R : Room} {s : State} {m : MethodId} {args : Array Value} {below : List Frame} {meth : Method} {c : Code} {T : State} {locs : List Loc} {cells slots : Nat}
theorem own_mono (X : Stand p l e R s m args below meth c T locs cells slots) {k n : Nat} (h1 : cells ≤ k) (h2 : slots ≤ n) : Stand p l e R s m args below meth c T locs k n :=
  ⟨X.admits, X.cas, X.clock, X.frames, X.room, X.hears, X.method, X.code, X.here, X.tail, X.warmed, X.limits, X.bytes, X.same.mono h1 h2⟩
theorem own_retI (X : Stand p l e R s m args below meth c T locs cells slots) (hx : p.tables.exec = Jvm.exec) (hnl : meth.locks = false) (hret : meth.sig.returnType = some .int) {pc : Nat} {Ls : Array Slot} {z : Int32} {rest : List Value} (hd : decode c.code pc = .ok (.ireturn, 1)) {Q : Option Value → Heap → List Loc → Prop} {k n : Nat}
    (hq : Q (some (.int z)) T.heap locs) (hc : cells ≤ k) (hs : slots ≤ n) : WP p e below (GG Q s k n) (T.setTop (mkF m pc Ls (.int z :: rest))) := by
  obtain ⟨fs, hr, hrun, hended, hW, hsame⟩ := X.leave (v := some (.int z)) (fun h => by rw [hret] at h; cases h) hnl
  exact ⟨_, _, retOut X hx hret rfl (Or.inl ⟨rfl, Or.inl rfl, z, rfl⟩) hd hr, hrun, hended, _, _, rfl, hq, ⟨_, rfl⟩, hW, hsame.mono hc hs⟩
theorem own_retN (X : Stand p l e R s m args below meth c T locs cells slots) (hx : p.tables.exec = Jvm.exec) (hnl : meth.locks = false) {t : FieldType} (hret : meth.sig.returnType = some t) (ht : t = .boolean ∨ t = .byte ∨ t = .char ∨ t = .short) {pc : Nat} {Ls : Array Slot} {z : Int32} {rest : List Value} (hd : decode c.code pc = .ok (.ireturn, 1)) {Q : Option Value → Heap → List Loc → Prop} {k n : Nat}
    (hq : Q (some (.int (nar t z))) T.heap locs) (hc : cells ≤ k) (hs : slots ≤ n) : WP p e below (GG Q s k n) (T.setTop (mkF m pc Ls (.int z :: rest))) := by
  obtain ⟨fs, hr, hrun, hended, hW, hsame⟩ := X.leave (v := some (.int (nar t z))) (fun h => by rw [hret] at h; cases h) hnl
  exact ⟨_, _, retN X hx hret ht hd hr, hrun, hended, _, _, rfl, hq, ⟨_, rfl⟩, hW, hsame.mono hc hs⟩
theorem own_retZ (X : Stand p l e R s m args below meth c T locs cells slots) (hx : p.tables.exec = Jvm.exec) (hnl : meth.locks = false) (hret : meth.sig.returnType = some .boolean) {pc : Nat} {Ls : Array Slot} {z : Int32} {rest : List Value} (hd : decode c.code pc = .ok (.ireturn, 1)) (hz : z = 0 ∨ z = 1) {Q : Option Value → Heap → List Loc → Prop} {k n : Nat}
    (hq : Q (some (.int z)) T.heap locs) (hc : cells ≤ k) (hs : slots ≤ n) : WP p e below (GG Q s k n) (T.setTop (mkF m pc Ls (.int z :: rest))) := by
  have hb : nar .boolean z = z := by rcases hz with rfl | rfl <;> rfl
  exact own_retN X hx hnl hret (Or.inl rfl) hd (by rw [hb]; exact hq) hc hs
theorem own_retC (X : Stand p l e R s m args below meth c T locs cells slots) (hx : p.tables.exec = Jvm.exec) (hnl : meth.locks = false) (hret : meth.sig.returnType = some .char) {pc : Nat} {Ls : Array Slot} {z : Int32} {rest : List Value} (hd : decode c.code pc = .ok (.ireturn, 1)) {Q : Option Value → Heap → List Loc → Prop} {k n : Nat}
    (hq : Q (some (.int z.toUInt32.toUInt16.toUInt32.toInt32)) T.heap locs) (hc : cells ≤ k) (hs : slots ≤ n) : WP p e below (GG Q s k n) (T.setTop (mkF m pc Ls (.int z :: rest))) :=
  own_retN X hx hnl hret (Or.inr (Or.inr (Or.inl rfl))) hd hq hc hs
theorem own_retB (X : Stand p l e R s m args below meth c T locs cells slots) (hx : p.tables.exec = Jvm.exec) (hnl : meth.locks = false) (hret : meth.sig.returnType = some .byte) {pc : Nat} {Ls : Array Slot} {z : Int32} {rest : List Value} (hd : decode c.code pc = .ok (.ireturn, 1)) {Q : Option Value → Heap → List Loc → Prop} {k n : Nat}
    (hq : Q (some (.int z.toInt8.toInt32)) T.heap locs) (hc : cells ≤ k) (hs : slots ≤ n) : WP p e below (GG Q s k n) (T.setTop (mkF m pc Ls (.int z :: rest))) :=
  own_retN X hx hnl hret (Or.inr (Or.inl rfl)) hd hq hc hs
theorem own_retJ (X : Stand p l e R s m args below meth c T locs cells slots) (hx : p.tables.exec = Jvm.exec) (hnl : meth.locks = false) (hret : meth.sig.returnType = some .long) {pc : Nat} {Ls : Array Slot} {z : Int64} {rest : List Value} (hd : decode c.code pc = .ok (.lreturn, 1)) {Q : Option Value → Heap → List Loc → Prop} {k n : Nat}
    (hq : Q (some (.long z)) T.heap locs) (hc : cells ≤ k) (hs : slots ≤ n) : WP p e below (GG Q s k n) (T.setTop (mkF m pc Ls (.long z :: rest))) := by
  obtain ⟨fs, hr, hrun, hended, hW, hsame⟩ := X.leave (v := some (.long z)) (fun h => by rw [hret] at h; cases h) hnl
  exact ⟨_, _, retOut X hx hret rfl (Or.inr (Or.inl ⟨rfl, rfl, z, rfl⟩)) hd hr, hrun, hended, _, _, rfl, hq, ⟨_, rfl⟩, hW, hsame.mono hc hs⟩
theorem own_retA (X : Stand p l e R s m args below meth c T locs cells slots) (hx : p.tables.exec = Jvm.exec) (hnl : meth.locks = false) {t : FieldType} (hret : meth.sig.returnType = some t) (ht : t.isReference = true) {pc : Nat} {Ls : Array Slot} {w : Value} (hw : w.isRef = true) {rest : List Value} (hd : decode c.code pc = .ok (.areturn, 1)) {Q : Option Value → Heap → List Loc → Prop} {k n : Nat}
    (hq : Q (some w) T.heap locs) (hc : cells ≤ k) (hs : slots ≤ n) : WP p e below (GG Q s k n) (T.setTop (mkF m pc Ls (w :: rest))) := by
  obtain ⟨fs, hr, hrun, hended, hW, hsame⟩ := X.leave (v := some w) (fun h => by rw [hret] at h; cases h) hnl
  have hn : narrow t w = w := by cases t <;> first | rfl | (simp [FieldType.isReference] at ht)
  exact ⟨_, _, retOut X hx hret hn (Or.inr (Or.inr (Or.inr (Or.inr ⟨rfl, ht, hw⟩)))) hd hr, hrun, hended, _, _, rfl, hq, ⟨_, rfl⟩, hW, hsame.mono hc hs⟩
theorem own_ret0 (X : Stand p l e R s m args below meth c T locs cells slots) (hx : p.tables.exec = Jvm.exec) (hnl : meth.locks = false) (hret : meth.sig.returnType = none) {pc : Nat} {Ls : Array Slot} (hd : decode c.code pc = .ok (.return_, 1)) {Q : Option Value → Heap → List Loc → Prop} {k n : Nat}
    (hq : Q none T.heap locs) (hc : cells ≤ k) (hs : slots ≤ n) : WP p e below (GG Q s k n) (T.setTop (mkF m pc Ls [])) := by
  obtain ⟨fs, hr, hrun, hended, hW, hsame⟩ := X.leave (v := none) (fun _ => rfl) hnl
  exact ⟨_, _, X.returnOut hx hret hd hr, hrun, hended, _, _, rfl, hq, ⟨_, rfl⟩, hW, hsame.mono hc hs⟩
end Own

def f1 (p1 : Int32) : Int32 := (if p1 = (32 : Int32) then (1 : Int32) else (if p1 = (9 : Int32) then (1 : Int32) else (if p1 = (160 : Int32) then (1 : Int32) else (if p1 = (10 : Int32) then (1 : Int32) else (if p1 = (13 : Int32) then (1 : Int32) else (0 : Int32))))))
theorem d1_0 : decode prog_10_method_11_code 0 = .ok (.iload_n 0, 1) := by decide +kernel
theorem d1_1 : decode prog_10_method_11_code 1 = .ok (.bipush 32, 2) := by decide +kernel
theorem d1_3 : decode prog_10_method_11_code 3 = .ok (.if_icmp .eq 28, 3) := by decide +kernel
theorem d1_6 : decode prog_10_method_11_code 6 = .ok (.iload_n 0, 1) := by decide +kernel
theorem d1_7 : decode prog_10_method_11_code 7 = .ok (.bipush 9, 2) := by decide +kernel
theorem d1_9 : decode prog_10_method_11_code 9 = .ok (.if_icmp .eq 22, 3) := by decide +kernel
theorem d1_12 : decode prog_10_method_11_code 12 = .ok (.iload_n 0, 1) := by decide +kernel
theorem d1_13 : decode prog_10_method_11_code 13 = .ok (.sipush 160, 3) := by decide +kernel
theorem d1_16 : decode prog_10_method_11_code 16 = .ok (.if_icmp .eq 15, 3) := by decide +kernel
theorem d1_19 : decode prog_10_method_11_code 19 = .ok (.iload_n 0, 1) := by decide +kernel
theorem d1_20 : decode prog_10_method_11_code 20 = .ok (.bipush 10, 2) := by decide +kernel
theorem d1_22 : decode prog_10_method_11_code 22 = .ok (.if_icmp .eq 9, 3) := by decide +kernel
theorem d1_25 : decode prog_10_method_11_code 25 = .ok (.iload_n 0, 1) := by decide +kernel
theorem d1_26 : decode prog_10_method_11_code 26 = .ok (.bipush 13, 2) := by decide +kernel
theorem d1_28 : decode prog_10_method_11_code 28 = .ok (.if_icmp .ne 7, 3) := by decide +kernel
theorem d1_31 : decode prog_10_method_11_code 31 = .ok (.iconst 1, 1) := by decide +kernel
theorem d1_32 : decode prog_10_method_11_code 32 = .ok (.goto 4, 3) := by decide +kernel
theorem d1_35 : decode prog_10_method_11_code 35 = .ok (.iconst 0, 1) := by decide +kernel
theorem d1_36 : decode prog_10_method_11_code 36 = .ok (.ireturn, 1) := by decide +kernel
theorem pn_0 : plainName "com/example/covenant_atlas/covenantatlas/analysis/Spacing" = true := by first | (simp [plainName, overriddenIn]; done) | decide +kernel
theorem ef_rm1 (m : MethodId) (x0 : Int32) : entryFrame m #[(.int x0)] 1 = mkF m 0 #[.val (.int x0)] [] := by first | (simp [entryFrame, mkF, argsToLocals, Value.category]; done) | rfl
set_option maxRecDepth 65536 in
set_option maxHeartbeats 40000000 in
theorem rm1 (l : Launch) (Z : State) (a0 : Array Value) (hw : ∀ d ∈ tables_1, d.before a0 Z = true) (ws : List Jvm.Cond) (p1 : Int32) (h0 : Heap) (n0 : Nat) :
    MetFree l (⟨"com/example/covenant_atlas/covenantatlas/analysis/Spacing", "isGap", "(C)Z"⟩ : MethodName) (head1 (Jvm.Cond.code (⟨"com/example/covenant_atlas/covenantatlas/analysis/Spacing", "isGap", "(C)Z"⟩ : MethodName) prog_10_method_11_code 1 (some .boolean) :: ws) ({ frames := 0, cells := 0, slots := 0, locals := 0 } : Room)) (fun a U => a = #[(.int p1)] ∧ Z.Warmed39 U.vm ∧ U.heap = h0) (fun _ _ _ _ _ => True) (fun _ U o U' => ∃ v L, o = .returned v ∧ (PQ h0 n0 (.int (f1 p1))) v U'.heap L ∧ FrameEnd U o U' L ({ frames := 0, cells := 0, slots := 0, locals := 0 } : Room).cells ({ frames := 0, cells := 0, slots := 0, locals := 0 } : Room).slots) := by
  refine MetFree.of_bodySF (plainFor_of_name pn_0) hisR ?_
  intro p e s m args below meth c s₁ Bd hml0 hP hK
  obtain ⟨rfl, hZ, hh⟩ := hP
  have hx := Bd.exec
  have hby := Bd.bytes
  have hml : c.maxLocals = 1 := hml0
  have hown : s.vm.findClass "com/example/covenant_atlas/covenantatlas/analysis/Spacing" = some m.cls := findClass_of_methodNamed Bd.named
  have hnm := (name_of_methodNamed Bd.named Bd.method).1
  have X0 : Stand p l e ({ frames := 0, cells := 0, slots := 0, locals := 0 } : Room) s m #[(.int p1)] below meth c s₁ [] 0 0 := Stand.of_body Bd
  have e0 : s₁.heap = h0 := by rw [← hh, Bd.state]; rfl
  have N0 := Fr.nil n0
  show WP p e below (GG (PQ h0 n0 (.int (f1 p1))) s ({ frames := 0, cells := 0, slots := 0, locals := 0 } : Room).cells ({ frames := 0, cells := 0, slots := 0, locals := 0 } : Room).slots) (s₁.setTop (entryFrame m #[(.int p1)] 1))
  rw [ef_rm1 m p1]
  show WP p e below _ (s₁.setTop (mkF m 0 #[.val (.int p1)] []))
  refine own_go (fun t_ k => XS.iloadN X0.here hx rfl (hb hby d1_0) rfl k) ?_
  show WP p e below _ (s₁.setTop (mkF m 1 #[.val (.int p1)] [(.int p1)]))
  refine own_go (fun t_ k => XS.bipush X0.here hx rfl (hb hby d1_1) k) ?_
  show WP p e below _ (s₁.setTop (mkF m 3 #[.val (.int p1)] [(.int (32 : Int32)), (.int p1)]))
  by_cases hc3_1 : p1 = (32 : Int32)
  · refine own_go (fun t_ k => XS.icmpYes X0.here hx rfl (pc0 := 3) (pc' := 31) rfl (hb hby d1_3) rfl (teq hc3_1).1 (by decide) (by decide) k) ?_
    show WP p e below _ (s₁.setTop (mkF m 31 #[.val (.int p1)] []))
    refine own_go (fun t_ k => XS.iconst X0.here hx rfl (hb hby d1_31) k) ?_
    show WP p e below _ (s₁.setTop (mkF m 32 #[.val (.int p1)] [(.int (1 : Int32))]))
    refine own_go (fun t_ k => XS.goto X0.here hx rfl (pc0 := 32) (pc' := 36) rfl (hb hby d1_32) (by decide) (by decide) k) ?_
    show WP p e below _ (s₁.setTop (mkF m 36 #[.val (.int p1)] [(.int (1 : Int32))]))
    exact own_retZ X0 hx Bd.notSynchronized Bd.returns (hb hby d1_36) (by decide) (show PQ h0 n0 (.int (f1 p1)) _ _ _ from ⟨by rw [f1, if_pos hc3_1], N0, e0⟩) (by decide) (by decide)
  · refine own_go (fun t_ k => XS.icmpNo X0.here hx rfl (hb hby d1_3) rfl (feq hc3_1).1 k) ?_
    show WP p e below _ (s₁.setTop (mkF m 6 #[.val (.int p1)] []))
    refine own_go (fun t_ k => XS.iloadN X0.here hx rfl (hb hby d1_6) rfl k) ?_
    show WP p e below _ (s₁.setTop (mkF m 7 #[.val (.int p1)] [(.int p1)]))
    refine own_go (fun t_ k => XS.bipush X0.here hx rfl (hb hby d1_7) k) ?_
    show WP p e below _ (s₁.setTop (mkF m 9 #[.val (.int p1)] [(.int (9 : Int32)), (.int p1)]))
    by_cases hc9_2 : p1 = (9 : Int32)
    · refine own_go (fun t_ k => XS.icmpYes X0.here hx rfl (pc0 := 9) (pc' := 31) rfl (hb hby d1_9) rfl (teq hc9_2).1 (by decide) (by decide) k) ?_
      show WP p e below _ (s₁.setTop (mkF m 31 #[.val (.int p1)] []))
      refine own_go (fun t_ k => XS.iconst X0.here hx rfl (hb hby d1_31) k) ?_
      show WP p e below _ (s₁.setTop (mkF m 32 #[.val (.int p1)] [(.int (1 : Int32))]))
      refine own_go (fun t_ k => XS.goto X0.here hx rfl (pc0 := 32) (pc' := 36) rfl (hb hby d1_32) (by decide) (by decide) k) ?_
      show WP p e below _ (s₁.setTop (mkF m 36 #[.val (.int p1)] [(.int (1 : Int32))]))
      exact own_retZ X0 hx Bd.notSynchronized Bd.returns (hb hby d1_36) (by decide) (show PQ h0 n0 (.int (f1 p1)) _ _ _ from ⟨by rw [f1, if_neg hc3_1, if_pos hc9_2], N0, e0⟩) (by decide) (by decide)
    · refine own_go (fun t_ k => XS.icmpNo X0.here hx rfl (hb hby d1_9) rfl (feq hc9_2).1 k) ?_
      show WP p e below _ (s₁.setTop (mkF m 12 #[.val (.int p1)] []))
      refine own_go (fun t_ k => XS.iloadN X0.here hx rfl (hb hby d1_12) rfl k) ?_
      show WP p e below _ (s₁.setTop (mkF m 13 #[.val (.int p1)] [(.int p1)]))
      refine own_go (fun t_ k => XS.sipush X0.here hx rfl (hb hby d1_13) k) ?_
      show WP p e below _ (s₁.setTop (mkF m 16 #[.val (.int p1)] [(.int (160 : Int32)), (.int p1)]))
      by_cases hc16_3 : p1 = (160 : Int32)
      · refine own_go (fun t_ k => XS.icmpYes X0.here hx rfl (pc0 := 16) (pc' := 31) rfl (hb hby d1_16) rfl (teq hc16_3).1 (by decide) (by decide) k) ?_
        show WP p e below _ (s₁.setTop (mkF m 31 #[.val (.int p1)] []))
        refine own_go (fun t_ k => XS.iconst X0.here hx rfl (hb hby d1_31) k) ?_
        show WP p e below _ (s₁.setTop (mkF m 32 #[.val (.int p1)] [(.int (1 : Int32))]))
        refine own_go (fun t_ k => XS.goto X0.here hx rfl (pc0 := 32) (pc' := 36) rfl (hb hby d1_32) (by decide) (by decide) k) ?_
        show WP p e below _ (s₁.setTop (mkF m 36 #[.val (.int p1)] [(.int (1 : Int32))]))
        exact own_retZ X0 hx Bd.notSynchronized Bd.returns (hb hby d1_36) (by decide) (show PQ h0 n0 (.int (f1 p1)) _ _ _ from ⟨by rw [f1, if_neg hc3_1, if_neg hc9_2, if_pos hc16_3], N0, e0⟩) (by decide) (by decide)
      · refine own_go (fun t_ k => XS.icmpNo X0.here hx rfl (hb hby d1_16) rfl (feq hc16_3).1 k) ?_
        show WP p e below _ (s₁.setTop (mkF m 19 #[.val (.int p1)] []))
        refine own_go (fun t_ k => XS.iloadN X0.here hx rfl (hb hby d1_19) rfl k) ?_
        show WP p e below _ (s₁.setTop (mkF m 20 #[.val (.int p1)] [(.int p1)]))
        refine own_go (fun t_ k => XS.bipush X0.here hx rfl (hb hby d1_20) k) ?_
        show WP p e below _ (s₁.setTop (mkF m 22 #[.val (.int p1)] [(.int (10 : Int32)), (.int p1)]))
        by_cases hc22_4 : p1 = (10 : Int32)
        · refine own_go (fun t_ k => XS.icmpYes X0.here hx rfl (pc0 := 22) (pc' := 31) rfl (hb hby d1_22) rfl (teq hc22_4).1 (by decide) (by decide) k) ?_
          show WP p e below _ (s₁.setTop (mkF m 31 #[.val (.int p1)] []))
          refine own_go (fun t_ k => XS.iconst X0.here hx rfl (hb hby d1_31) k) ?_
          show WP p e below _ (s₁.setTop (mkF m 32 #[.val (.int p1)] [(.int (1 : Int32))]))
          refine own_go (fun t_ k => XS.goto X0.here hx rfl (pc0 := 32) (pc' := 36) rfl (hb hby d1_32) (by decide) (by decide) k) ?_
          show WP p e below _ (s₁.setTop (mkF m 36 #[.val (.int p1)] [(.int (1 : Int32))]))
          exact own_retZ X0 hx Bd.notSynchronized Bd.returns (hb hby d1_36) (by decide) (show PQ h0 n0 (.int (f1 p1)) _ _ _ from ⟨by rw [f1, if_neg hc3_1, if_neg hc9_2, if_neg hc16_3, if_pos hc22_4], N0, e0⟩) (by decide) (by decide)
        · refine own_go (fun t_ k => XS.icmpNo X0.here hx rfl (hb hby d1_22) rfl (feq hc22_4).1 k) ?_
          show WP p e below _ (s₁.setTop (mkF m 25 #[.val (.int p1)] []))
          refine own_go (fun t_ k => XS.iloadN X0.here hx rfl (hb hby d1_25) rfl k) ?_
          show WP p e below _ (s₁.setTop (mkF m 26 #[.val (.int p1)] [(.int p1)]))
          refine own_go (fun t_ k => XS.bipush X0.here hx rfl (hb hby d1_26) k) ?_
          show WP p e below _ (s₁.setTop (mkF m 28 #[.val (.int p1)] [(.int (13 : Int32)), (.int p1)]))
          by_cases hc28_5 : p1 = (13 : Int32)
          · refine own_go (fun t_ k => XS.icmpNo X0.here hx rfl (hb hby d1_28) rfl (teq hc28_5).2 k) ?_
            show WP p e below _ (s₁.setTop (mkF m 31 #[.val (.int p1)] []))
            refine own_go (fun t_ k => XS.iconst X0.here hx rfl (hb hby d1_31) k) ?_
            show WP p e below _ (s₁.setTop (mkF m 32 #[.val (.int p1)] [(.int (1 : Int32))]))
            refine own_go (fun t_ k => XS.goto X0.here hx rfl (pc0 := 32) (pc' := 36) rfl (hb hby d1_32) (by decide) (by decide) k) ?_
            show WP p e below _ (s₁.setTop (mkF m 36 #[.val (.int p1)] [(.int (1 : Int32))]))
            exact own_retZ X0 hx Bd.notSynchronized Bd.returns (hb hby d1_36) (by decide) (show PQ h0 n0 (.int (f1 p1)) _ _ _ from ⟨by rw [f1, if_neg hc3_1, if_neg hc9_2, if_neg hc16_3, if_neg hc22_4, if_pos hc28_5], N0, e0⟩) (by decide) (by decide)
          · refine own_go (fun t_ k => XS.icmpYes X0.here hx rfl (pc0 := 28) (pc' := 35) rfl (hb hby d1_28) rfl (feq hc28_5).2 (by decide) (by decide) k) ?_
            show WP p e below _ (s₁.setTop (mkF m 35 #[.val (.int p1)] []))
            refine own_go (fun t_ k => XS.iconst X0.here hx rfl (hb hby d1_35) k) ?_
            show WP p e below _ (s₁.setTop (mkF m 36 #[.val (.int p1)] [(.int (0 : Int32))]))
            exact own_retZ X0 hx Bd.notSynchronized Bd.returns (hb hby d1_36) (by decide) (show PQ h0 n0 (.int (f1 p1)) _ _ _ from ⟨by rw [f1, if_neg hc3_1, if_neg hc9_2, if_neg hc16_3, if_neg hc22_4, if_neg hc28_5], N0, e0⟩) (by decide) (by decide)
def f2 (p1 : Int32) : Int32 := (if p1 < (64 : Int32) then (if ((((4294977024 : Int64).toUInt64 >>> (p1 &&& 0x3f).toInt64.toUInt64).toInt64) &&& (1 : Int64)) = (0 : Int64) then (0 : Int32) else (1 : Int32)) else (if p1 = (160 : Int32) then (1 : Int32) else (0 : Int32)))
theorem d2_0 : decode method_2_code 0 = .ok (.ldc2_w 7, 3) := by decide +kernel
theorem d2_3 : decode method_2_code 3 = .ok (.lstore_n 1, 1) := by decide +kernel
theorem d2_4 : decode method_2_code 4 = .ok (.iload_n 0, 1) := by decide +kernel
theorem d2_5 : decode method_2_code 5 = .ok (.bipush 64, 2) := by decide +kernel
theorem d2_7 : decode method_2_code 7 = .ok (.if_icmp .ge 19, 3) := by decide +kernel
theorem d2_10 : decode method_2_code 10 = .ok (.lload_n 1, 1) := by decide +kernel
theorem d2_11 : decode method_2_code 11 = .ok (.iload_n 0, 1) := by decide +kernel
theorem d2_12 : decode method_2_code 12 = .ok (.lushr, 1) := by decide +kernel
theorem d2_13 : decode method_2_code 13 = .ok (.lconst 1, 1) := by decide +kernel
theorem d2_14 : decode method_2_code 14 = .ok (.land, 1) := by decide +kernel
theorem d2_15 : decode method_2_code 15 = .ok (.lconst 0, 1) := by decide +kernel
theorem d2_16 : decode method_2_code 16 = .ok (.lcmp, 1) := by decide +kernel
theorem d2_17 : decode method_2_code 17 = .ok (.ifCond .eq 7, 3) := by decide +kernel
theorem d2_20 : decode method_2_code 20 = .ok (.iconst 1, 1) := by decide +kernel
theorem d2_21 : decode method_2_code 21 = .ok (.goto 4, 3) := by decide +kernel
theorem d2_24 : decode method_2_code 24 = .ok (.iconst 0, 1) := by decide +kernel
theorem d2_25 : decode method_2_code 25 = .ok (.ireturn, 1) := by decide +kernel
theorem d2_26 : decode method_2_code 26 = .ok (.iload_n 0, 1) := by decide +kernel
theorem d2_27 : decode method_2_code 27 = .ok (.sipush 160, 3) := by decide +kernel
theorem d2_30 : decode method_2_code 30 = .ok (.if_icmp .ne 7, 3) := by decide +kernel
theorem d2_33 : decode method_2_code 33 = .ok (.iconst 1, 1) := by decide +kernel
theorem d2_34 : decode method_2_code 34 = .ok (.goto 4, 3) := by decide +kernel
theorem d2_37 : decode method_2_code 37 = .ok (.iconst 0, 1) := by decide +kernel
theorem d2_38 : decode method_2_code 38 = .ok (.ireturn, 1) := by decide +kernel
theorem pn_1 : plainName "com/example/covenant_atlas/covenantatlas/analysis/SpacingIsGapPinLaw" = true := by first | (simp [plainName, overriddenIn]; done) | decide +kernel
theorem ef_rm2 (m : MethodId) (x0 : Int32) : entryFrame m #[(.int x0)] 3 = mkF m 0 #[.val (.int x0), .unset, .unset] [] := by first | (simp [entryFrame, mkF, argsToLocals, Value.category]; done) | rfl
set_option maxRecDepth 65536 in
set_option maxHeartbeats 40000000 in
theorem rm2 (l : Launch) (Z : State) (a0 : Array Value) (hw : ∀ d ∈ tables_1, d.before a0 Z = true) (ws : List Jvm.Cond) (p1 : Int32) (h0 : Heap) (n0 : Nat) :
    MetFree l (⟨"com/example/covenant_atlas/covenantatlas/analysis/SpacingIsGapPinLaw", "expected", "(C)Z"⟩ : MethodName) (head1 (Jvm.Cond.code (⟨"com/example/covenant_atlas/covenantatlas/analysis/SpacingIsGapPinLaw", "expected", "(C)Z"⟩ : MethodName) method_2_code 3 (some .boolean) :: ws) ({ frames := 0, cells := 0, slots := 0, locals := 0 } : Room)) (fun a U => a = #[(.int p1)] ∧ Z.Warmed39 U.vm ∧ U.heap = h0) (fun _ _ _ _ _ => True) (fun _ U o U' => ∃ v L, o = .returned v ∧ (PQ h0 n0 (.int (f2 p1))) v U'.heap L ∧ FrameEnd U o U' L ({ frames := 0, cells := 0, slots := 0, locals := 0 } : Room).cells ({ frames := 0, cells := 0, slots := 0, locals := 0 } : Room).slots) := by
  refine MetFree.of_bodySF (plainFor_of_name pn_1) hisR ?_
  intro p e s m args below meth c s₁ Bd hml0 hP hK
  obtain ⟨rfl, hZ, hh⟩ := hP
  have hx := Bd.exec
  have hby := Bd.bytes
  have hml : c.maxLocals = 3 := hml0
  have hown : s.vm.findClass "com/example/covenant_atlas/covenantatlas/analysis/SpacingIsGapPinLaw" = some m.cls := findClass_of_methodNamed Bd.named
  have hnm := (name_of_methodNamed Bd.named Bd.method).1
  have X0 : Stand p l e ({ frames := 0, cells := 0, slots := 0, locals := 0 } : Room) s m #[(.int p1)] below meth c s₁ [] 0 0 := Stand.of_body Bd
  have e0 : s₁.heap = h0 := by rw [← hh, Bd.state]; rfl
  have N0 := Fr.nil n0
  show WP p e below (GG (PQ h0 n0 (.int (f2 p1))) s ({ frames := 0, cells := 0, slots := 0, locals := 0 } : Room).cells ({ frames := 0, cells := 0, slots := 0, locals := 0 } : Room).slots) (s₁.setTop (entryFrame m #[(.int p1)] 3))
  rw [ef_rm2 m p1]
  show WP p e below _ (s₁.setTop (mkF m 0 #[.val (.int p1), .unset, .unset] []))
  refine own_go (fun t_ k => X0.ldc2Long hx hown (mvT hZ (hw _ (List.mem_of_getElem? (i := 10) rfl))) (g := (mkF m 0 #[.val (.int p1), .unset, .unset] [])) rfl (hb hby d2_0) _ k) ?_
  show WP p e below _ (s₁.setTop (mkF m 3 #[.val (.int p1), .unset, .unset] [(.long (4294977024 : Int64))]))
  refine own_go (fun t_ k => XS.lstoreN X0.here hx rfl (hb hby d2_3) rfl (l' := #[.val (.int p1), .val (.long (4294977024 : Int64)), .second]) rfl k) ?_
  show WP p e below _ (s₁.setTop (mkF m 4 #[.val (.int p1), .val (.long (4294977024 : Int64)), .second] []))
  refine own_go (fun t_ k => XS.iloadN X0.here hx rfl (hb hby d2_4) rfl k) ?_
  show WP p e below _ (s₁.setTop (mkF m 5 #[.val (.int p1), .val (.long (4294977024 : Int64)), .second] [(.int p1)]))
  refine own_go (fun t_ k => XS.bipush X0.here hx rfl (hb hby d2_5) k) ?_
  show WP p e below _ (s₁.setTop (mkF m 7 #[.val (.int p1), .val (.long (4294977024 : Int64)), .second] [(.int (64 : Int32)), (.int p1)]))
  by_cases hc7_1 : p1 < (64 : Int32)
  · refine own_go (fun t_ k => XS.icmpNo X0.here hx rfl (hb hby d2_7) rfl (tlt hc7_1).2.1 k) ?_
    show WP p e below _ (s₁.setTop (mkF m 10 #[.val (.int p1), .val (.long (4294977024 : Int64)), .second] []))
    refine own_go (fun t_ k => XS.lloadN X0.here hx rfl (hb hby d2_10) rfl k) ?_
    show WP p e below _ (s₁.setTop (mkF m 11 #[.val (.int p1), .val (.long (4294977024 : Int64)), .second] [(.long (4294977024 : Int64))]))
    refine own_go (fun t_ k => XS.iloadN X0.here hx rfl (hb hby d2_11) rfl k) ?_
    show WP p e below _ (s₁.setTop (mkF m 12 #[.val (.int p1), .val (.long (4294977024 : Int64)), .second] [(.int p1), (.long (4294977024 : Int64))]))
    refine own_go (fun t_ k => XS.lushr X0.here hx rfl (hb hby d2_12) rfl k) ?_
    show WP p e below _ (s₁.setTop (mkF m 13 #[.val (.int p1), .val (.long (4294977024 : Int64)), .second] [(.long (((4294977024 : Int64).toUInt64 >>> (p1 &&& 0x3f).toInt64.toUInt64).toInt64))]))
    refine own_go (fun t_ k => XS.lconst X0.here hx rfl (hb hby d2_13) k) ?_
    show WP p e below _ (s₁.setTop (mkF m 14 #[.val (.int p1), .val (.long (4294977024 : Int64)), .second] [(.long (1 : Int64)), (.long (((4294977024 : Int64).toUInt64 >>> (p1 &&& 0x3f).toInt64.toUInt64).toInt64))]))
    refine own_go (fun t_ k => XS.land X0.here hx rfl (hb hby d2_14) rfl k) ?_
    show WP p e below _ (s₁.setTop (mkF m 15 #[.val (.int p1), .val (.long (4294977024 : Int64)), .second] [(.long ((((4294977024 : Int64).toUInt64 >>> (p1 &&& 0x3f).toInt64.toUInt64).toInt64) &&& (1 : Int64)))]))
    refine own_go (fun t_ k => XS.lconst X0.here hx rfl (hb hby d2_15) k) ?_
    show WP p e below _ (s₁.setTop (mkF m 16 #[.val (.int p1), .val (.long (4294977024 : Int64)), .second] [(.long (0 : Int64)), (.long ((((4294977024 : Int64).toUInt64 >>> (p1 &&& 0x3f).toInt64.toUInt64).toInt64) &&& (1 : Int64)))]))
    refine own_go (fun t_ k => XS.lcmp X0.here hx rfl (hb hby d2_16) rfl k) ?_
    show WP p e below _ (s₁.setTop (mkF m 17 #[.val (.int p1), .val (.long (4294977024 : Int64)), .second] [(.int (lcmpW ((((4294977024 : Int64).toUInt64 >>> (p1 &&& 0x3f).toInt64.toUInt64).toInt64) &&& (1 : Int64)) (0 : Int64)))]))
    by_cases hc17_2 : ((((4294977024 : Int64).toUInt64 >>> (p1 &&& 0x3f).toInt64.toUInt64).toInt64) &&& (1 : Int64)) = (0 : Int64)
    · refine own_go (fun t_ k => XS.ifYes X0.here hx rfl (pc0 := 17) (pc' := 24) rfl (hb hby d2_17) rfl ((if0 _ _).trans (teq ((lw_eq _ _).mpr hc17_2)).1) (by decide) (by decide) k) ?_
      show WP p e below _ (s₁.setTop (mkF m 24 #[.val (.int p1), .val (.long (4294977024 : Int64)), .second] []))
      refine own_go (fun t_ k => XS.iconst X0.here hx rfl (hb hby d2_24) k) ?_
      show WP p e below _ (s₁.setTop (mkF m 25 #[.val (.int p1), .val (.long (4294977024 : Int64)), .second] [(.int (0 : Int32))]))
      exact own_retZ X0 hx Bd.notSynchronized Bd.returns (hb hby d2_25) (by decide) (show PQ h0 n0 (.int (f2 p1)) _ _ _ from ⟨by rw [f2, if_pos hc7_1, if_pos hc17_2], N0, e0⟩) (by decide) (by decide)
    · refine own_go (fun t_ k => XS.ifNo X0.here hx rfl (hb hby d2_17) rfl ((if0 _ _).trans (feq (mt (lw_eq _ _).mp hc17_2)).1) k) ?_
      show WP p e below _ (s₁.setTop (mkF m 20 #[.val (.int p1), .val (.long (4294977024 : Int64)), .second] []))
      refine own_go (fun t_ k => XS.iconst X0.here hx rfl (hb hby d2_20) k) ?_
      show WP p e below _ (s₁.setTop (mkF m 21 #[.val (.int p1), .val (.long (4294977024 : Int64)), .second] [(.int (1 : Int32))]))
      refine own_go (fun t_ k => XS.goto X0.here hx rfl (pc0 := 21) (pc' := 25) rfl (hb hby d2_21) (by decide) (by decide) k) ?_
      show WP p e below _ (s₁.setTop (mkF m 25 #[.val (.int p1), .val (.long (4294977024 : Int64)), .second] [(.int (1 : Int32))]))
      exact own_retZ X0 hx Bd.notSynchronized Bd.returns (hb hby d2_25) (by decide) (show PQ h0 n0 (.int (f2 p1)) _ _ _ from ⟨by rw [f2, if_pos hc7_1, if_neg hc17_2], N0, e0⟩) (by decide) (by decide)
  · refine own_go (fun t_ k => XS.icmpYes X0.here hx rfl (pc0 := 7) (pc' := 26) rfl (hb hby d2_7) rfl (flt hc7_1).2.1 (by decide) (by decide) k) ?_
    show WP p e below _ (s₁.setTop (mkF m 26 #[.val (.int p1), .val (.long (4294977024 : Int64)), .second] []))
    refine own_go (fun t_ k => XS.iloadN X0.here hx rfl (hb hby d2_26) rfl k) ?_
    show WP p e below _ (s₁.setTop (mkF m 27 #[.val (.int p1), .val (.long (4294977024 : Int64)), .second] [(.int p1)]))
    refine own_go (fun t_ k => XS.sipush X0.here hx rfl (hb hby d2_27) k) ?_
    show WP p e below _ (s₁.setTop (mkF m 30 #[.val (.int p1), .val (.long (4294977024 : Int64)), .second] [(.int (160 : Int32)), (.int p1)]))
    by_cases hc30_3 : p1 = (160 : Int32)
    · refine own_go (fun t_ k => XS.icmpNo X0.here hx rfl (hb hby d2_30) rfl (teq hc30_3).2 k) ?_
      show WP p e below _ (s₁.setTop (mkF m 33 #[.val (.int p1), .val (.long (4294977024 : Int64)), .second] []))
      refine own_go (fun t_ k => XS.iconst X0.here hx rfl (hb hby d2_33) k) ?_
      show WP p e below _ (s₁.setTop (mkF m 34 #[.val (.int p1), .val (.long (4294977024 : Int64)), .second] [(.int (1 : Int32))]))
      refine own_go (fun t_ k => XS.goto X0.here hx rfl (pc0 := 34) (pc' := 38) rfl (hb hby d2_34) (by decide) (by decide) k) ?_
      show WP p e below _ (s₁.setTop (mkF m 38 #[.val (.int p1), .val (.long (4294977024 : Int64)), .second] [(.int (1 : Int32))]))
      exact own_retZ X0 hx Bd.notSynchronized Bd.returns (hb hby d2_38) (by decide) (show PQ h0 n0 (.int (f2 p1)) _ _ _ from ⟨by rw [f2, if_neg hc7_1, if_pos hc30_3], N0, e0⟩) (by decide) (by decide)
    · refine own_go (fun t_ k => XS.icmpYes X0.here hx rfl (pc0 := 30) (pc' := 37) rfl (hb hby d2_30) rfl (feq hc30_3).2 (by decide) (by decide) k) ?_
      show WP p e below _ (s₁.setTop (mkF m 37 #[.val (.int p1), .val (.long (4294977024 : Int64)), .second] []))
      refine own_go (fun t_ k => XS.iconst X0.here hx rfl (hb hby d2_37) k) ?_
      show WP p e below _ (s₁.setTop (mkF m 38 #[.val (.int p1), .val (.long (4294977024 : Int64)), .second] [(.int (0 : Int32))]))
      exact own_retZ X0 hx Bd.notSynchronized Bd.returns (hb hby d2_38) (by decide) (show PQ h0 n0 (.int (f2 p1)) _ _ _ from ⟨by rw [f2, if_neg hc7_1, if_neg hc30_3], N0, e0⟩) (by decide) (by decide)
theorem own_in (p : Int32) : ¬ (p &&& (15 : Int32)) < 0 ∧ (p &&& (15 : Int32)) < (16 : Int32) := by
  have a1 := c_mask p 15 4 (by decide) (by decide)
  have o1 : (0 : Int32).toInt = 0 := rfl
  have o2 : (16 : Int32).toInt = 16 := rfl
  simp only [Int32.lt_iff_toInt_lt]
  omega
theorem own_char (c : Int32) (h0 : 0 ≤ c.toInt) : f1 c = f2 c := by
  have o1 : (64 : Int32).toInt = 64 := rfl
  by_cases h : c < 64
  · have k : ∀ n : Fin 64, f1 (Int32.ofNat n.val) = f2 (Int32.ofNat n.val) := by decide +kernel
    rw [Int32.lt_iff_toInt_lt] at h
    have hn : c.toInt.toNat < 64 := by omega
    have e : c = Int32.ofNat c.toInt.toNat := Int32.toInt_inj.mp (by rw [Int32.toInt_ofNat_small (by omega)]; omega)
    rw [e]
    exact k ⟨c.toInt.toNat, hn⟩
  · rw [f1, f2, if_neg h]
    have n1 : ¬ c = 32 := fun q => h (by rw [q]; decide)
    have n2 : ¬ c = 9 := fun q => h (by rw [q]; decide)
    have n3 : ¬ c = 10 := fun q => h (by rw [q]; decide)
    have n4 : ¬ c = 13 := fun q => h (by rw [q]; decide)
    rw [if_neg n1, if_neg n2, if_neg n3, if_neg n4]
theorem pd_0 : parseMethodDescriptor "(C)Z" = some ⟨[.char], some .boolean⟩ := by decide +kernel
theorem own_law_1 {p1 : Int32} {p2 : Int32} {vi35 : Int32} {vi37 : Int32} {vi39 : Int32} {z41_S0 : Int32}
    (he35 : (p1.toUInt32.toUInt16.toUInt32.toInt32) = vi35)
    (he37 : (f1 vi35) = vi37)
    (he39 : (f2 vi35) = vi39)
    (hz41_S0 : z41_S0 = (if vi37 = vi39 then (1 : Int32) else (0 : Int32))) (hc102_34 : ((p2 &&& (16 : Int32)) = (0 : Int32))) : z41_S0 = 1 := by
  have a1 := c_i2c p1
  rw [he35] at a1
  have e := own_char vi35 a1.2.1
  rw [he37, he39] at e
  rw [if_pos e] at hz41_S0
  exact hz41_S0
theorem own_get (p2 : Int32) : ∃ cv : Int32, ([(.int ((8 : Int32).toUInt32.toUInt16.toUInt32.toInt32)), (.int ((9 : Int32).toUInt32.toUInt16.toUInt32.toInt32)), (.int ((10 : Int32).toUInt32.toUInt16.toUInt32.toInt32)), (.int ((11 : Int32).toUInt32.toUInt16.toUInt32.toInt32)), (.int ((12 : Int32).toUInt32.toUInt16.toUInt32.toInt32)), (.int ((13 : Int32).toUInt32.toUInt16.toUInt32.toInt32)), (.int ((14 : Int32).toUInt32.toUInt16.toUInt32.toInt32)), (.int ((31 : Int32).toUInt32.toUInt16.toUInt32.toInt32)), (.int ((32 : Int32).toUInt32.toUInt16.toUInt32.toInt32)), (.int ((33 : Int32).toUInt32.toUInt16.toUInt32.toInt32)), (.int ((159 : Int32).toUInt32.toUInt16.toUInt32.toInt32)), (.int ((160 : Int32).toUInt32.toUInt16.toUInt32.toInt32)), (.int ((161 : Int32).toUInt32.toUInt16.toUInt32.toInt32)), (.int ((0 : Int32).toUInt32.toUInt16.toUInt32.toInt32)), (.int ((65535 : Int32).toUInt32.toUInt16.toUInt32.toInt32)), (.int ((8199 : Int32).toUInt32.toUInt16.toUInt32.toInt32))] : List Value).getD (p2 &&& (15 : Int32)).toNatClampNeg (.int (0 : Int32)) = .int cv ∧ 0 ≤ cv.toInt := by
  have a1 := c_mask p2 15 4 (by decide) (by decide)
  have hb : (p2 &&& (15 : Int32)).toNatClampNeg < 16 := by simp only [Int32.toNatClampNeg]; omega
  generalize (p2 &&& (15 : Int32)).toNatClampNeg = n at hb ⊢
  match n, hb with
  | 0, _ => exact ⟨_, rfl, by decide⟩
  | 1, _ => exact ⟨_, rfl, by decide⟩
  | 2, _ => exact ⟨_, rfl, by decide⟩
  | 3, _ => exact ⟨_, rfl, by decide⟩
  | 4, _ => exact ⟨_, rfl, by decide⟩
  | 5, _ => exact ⟨_, rfl, by decide⟩
  | 6, _ => exact ⟨_, rfl, by decide⟩
  | 7, _ => exact ⟨_, rfl, by decide⟩
  | 8, _ => exact ⟨_, rfl, by decide⟩
  | 9, _ => exact ⟨_, rfl, by decide⟩
  | 10, _ => exact ⟨_, rfl, by decide⟩
  | 11, _ => exact ⟨_, rfl, by decide⟩
  | 12, _ => exact ⟨_, rfl, by decide⟩
  | 13, _ => exact ⟨_, rfl, by decide⟩
  | 14, _ => exact ⟨_, rfl, by decide⟩
  | 15, _ => exact ⟨_, rfl, by decide⟩
  | n + 16, h => exact absurd h (by omega)
theorem own_law_2 {p1 : Int32} {p2 : Int32} {cv : Int32} {vi45 : Int32} {vi47 : Int32} {z49_S0 : Int32}
    (hcv0 : 0 ≤ cv.toInt)
    (he45 : (f1 cv) = vi45)
    (he47 : (f2 cv) = vi47)
    (hz49_S0 : z49_S0 = (if vi45 = vi47 then (1 : Int32) else (0 : Int32))) (hc102_34 : ¬ ((p2 &&& (16 : Int32)) = (0 : Int32))) : z49_S0 = 1 := by
  have e := own_char cv hcv0
  rw [he45, he47] at e
  rw [if_pos e] at hz49_S0
  exact hz49_S0
theorem ef_rm0 (m : MethodId) (x0 : Int32) (x1 : Int32) : entryFrame m #[(.int x0), (.int x1)] maxLocals = mkF m 0 #[.val (.int x0), .val (.int x1), .unset, .unset] [] := by first | (simp [entryFrame, mkF, argsToLocals, Value.category, maxLocals]; done) | rfl
set_option maxRecDepth 65536 in
set_option maxHeartbeats 40000000 in
theorem rm0 (l : Launch) (Z : State) (a0 : Array Value) (hw : ∀ d ∈ tables_1, d.before a0 Z = true) (ws : List Jvm.Cond) (p1 : Int32) (p2 : Int32) (h0 : Heap) (n0 : Nat) (Z0 : n0 ≤ h0.size) :
    MetFree l x (head1 (Jvm.Cond.code x code maxLocals ret :: ws) room_1) (fun a U => a = #[(.int p1), (.int p2)] ∧ Z.Warmed39 U.vm ∧ U.heap = h0) (fun _ _ _ _ _ => True) (fun _ U o U' => ∃ v L, o = .returned v ∧ (Q0 n0) v U'.heap L ∧ FrameEnd U o U' L room_1.cells room_1.slots) := by
  refine MetFree.of_bodySF (plainFor_of_name pn_1) hisR ?_
  intro p e s m args below meth c s₁ Bd hml0 hP hK
  obtain ⟨rfl, hZ, hh⟩ := hP
  have hx := Bd.exec
  have hby := Bd.bytes
  have hml : c.maxLocals = 4 := hml0
  have hown : s.vm.findClass "com/example/covenant_atlas/covenantatlas/analysis/SpacingIsGapPinLaw" = some m.cls := findClass_of_methodNamed Bd.named
  have hnm := (name_of_methodNamed Bd.named Bd.method).1
  have X0 : Stand p l e room_1 s m #[(.int p1), (.int p2)] below meth c s₁ [] 0 0 := Stand.of_body Bd
  have e0 : s₁.heap = h0 := by rw [← hh, Bd.state]; rfl
  have N0 := Fr.nil n0
  show WP p e below (GG (Q0 n0) s room_1.cells room_1.slots) (s₁.setTop (entryFrame m #[(.int p1), (.int p2)] maxLocals))
  rw [ef_rm0 m p1 p2]
  show WP p e below _ (s₁.setTop (mkF m 0 #[.val (.int p1), .val (.int p2), .unset, .unset] []))
  refine own_go (fun t_ k => XS.bipush X0.here hx rfl (hb hby at_0) k) ?_
  show WP p e below _ (s₁.setTop (mkF m 2 #[.val (.int p1), .val (.int p2), .unset, .unset] [(.int (16 : Int32))]))
  obtain ⟨T1, h1, k1, X1, e1, E1, A1, st1⟩ := newP X0 hx hZ (hw _ (List.mem_of_getElem? (i := 0) rfl)) e0 (g := (mkF m 2 #[.val (.int p1), .val (.int p2), .unset, .unset] [(.int (16 : Int32))])) rfl (hb hby at_2) rfl (by decide) (cap := 16) (by decide) (by decide) (by decide) (by decide)
  obtain ⟨b1, g1⟩ : ∃ z, z = Array.size h0 := ⟨_, rfl⟩
  rw [← g1] at A1 st1
  refine own_go st1 ?_
  have g_b1 : n0 ≤ b1 := Nat.le_trans (Nat.le_trans Z0 (Keep.refl h0 []).1) (Nat.le_of_eq g1.symm)
  have sz_b1 : h0.size ≤ b1 := Nat.le_trans (Keep.refl h0 []).1 (Nat.le_of_eq g1.symm)
  have K1 : Keep h0 h1 [] := (Keep.refl h0 []).ext E1
  have V1 : Arv Z h1 b1 k1 .char (16 : Int32) [(.int (0 : Int32)), (.int (0 : Int32)), (.int (0 : Int32)), (.int (0 : Int32)), (.int (0 : Int32)), (.int (0 : Int32)), (.int (0 : Int32)), (.int (0 : Int32)), (.int (0 : Int32)), (.int (0 : Int32)), (.int (0 : Int32)), (.int (0 : Int32)), (.int (0 : Int32)), (.int (0 : Int32)), (.int (0 : Int32)), (.int (0 : Int32))] (.int (0 : Int32)) := (Arv.new A1 (by decide)).pad (pad_rep [] (.int (0 : Int32)) 16)
  show WP p e below _ (T1.setTop (mkF m 4 #[.val (.int p1), .val (.int p2), .unset, .unset] [(.ref b1)]))
  refine own_go (fun t_ k => XS.dup X1.here hx rfl (hb hby at_4) rfl rfl k) ?_
  show WP p e below _ (T1.setTop (mkF m 5 #[.val (.int p1), .val (.int p2), .unset, .unset] [(.ref b1), (.ref b1)]))
  refine own_go (fun t_ k => XS.iconst X1.here hx rfl (hb hby at_5) k) ?_
  show WP p e below _ (T1.setTop (mkF m 6 #[.val (.int p1), .val (.int p2), .unset, .unset] [(.int (0 : Int32)), (.ref b1), (.ref b1)]))
  refine own_go (fun t_ k => XS.bipush X1.here hx rfl (hb hby at_6) k) ?_
  show WP p e below _ (T1.setTop (mkF m 8 #[.val (.int p1), .val (.int p2), .unset, .unset] [(.int (8 : Int32)), (.int (0 : Int32)), (.ref b1), (.ref b1)]))
  obtain ⟨cl2, Ar2, q2, S2, M2, H2, G2⟩ := id (V1)
  have hin2 : ¬ ((0 : Int32) < 0 ∨ cl2.slots.size ≤ ((0 : Int32)).toNatClampNeg) := inb_of S2 (⟨by decide, by decide⟩)
  obtain ⟨T3, h3, X3, e3, W3, st3⟩ := stC X1 hx hZ e1 Ar2 (j := (0 : Int32)) hin2 (g := (mkF m 8 #[.val (.int p1), .val (.int p2), .unset, .unset] [(.int (8 : Int32)), (.int (0 : Int32)), (.ref b1), (.ref b1)])) rfl rfl (hb hby at_8)
  refine own_go st3 ?_
  have V3 : Arv Z h3 b1 k1 .char (16 : Int32) [(.int ((8 : Int32).toUInt32.toUInt16.toUInt32.toInt32)), (.int (0 : Int32)), (.int (0 : Int32)), (.int (0 : Int32)), (.int (0 : Int32)), (.int (0 : Int32)), (.int (0 : Int32)), (.int (0 : Int32)), (.int (0 : Int32)), (.int (0 : Int32)), (.int (0 : Int32)), (.int (0 : Int32)), (.int (0 : Int32)), (.int (0 : Int32)), (.int (0 : Int32)), (.int (0 : Int32))] (.int (0 : Int32)) := Arv.set Ar2 q2 S2 M2 H2 G2 (fits_nar_char _) W3 0 rfl (Nat.le_of_ble_eq_true rfl)
  have N3 := Fr.snoc X3 N0 g_b1
  have K3 : Keep h0 h3 [] := K1.wr W3 (Or.inr sz_b1)
  show WP p e below _ (T3.setTop (mkF m 9 #[.val (.int p1), .val (.int p2), .unset, .unset] [(.ref b1)]))
  refine own_go (fun t_ k => XS.dup X3.here hx rfl (hb hby at_9) rfl rfl k) ?_
  show WP p e below _ (T3.setTop (mkF m 10 #[.val (.int p1), .val (.int p2), .unset, .unset] [(.ref b1), (.ref b1)]))
  refine own_go (fun t_ k => XS.iconst X3.here hx rfl (hb hby at_10) k) ?_
  show WP p e below _ (T3.setTop (mkF m 11 #[.val (.int p1), .val (.int p2), .unset, .unset] [(.int (1 : Int32)), (.ref b1), (.ref b1)]))
  refine own_go (fun t_ k => XS.bipush X3.here hx rfl (hb hby at_11) k) ?_
  show WP p e below _ (T3.setTop (mkF m 13 #[.val (.int p1), .val (.int p2), .unset, .unset] [(.int (9 : Int32)), (.int (1 : Int32)), (.ref b1), (.ref b1)]))
  obtain ⟨cl4, Ar4, q4, S4, M4, H4, G4⟩ := id (V3)
  have hin4 : ¬ ((1 : Int32) < 0 ∨ cl4.slots.size ≤ ((1 : Int32)).toNatClampNeg) := inb_of S4 (⟨by decide, by decide⟩)
  obtain ⟨T5, h5, X5, e5, W5, st5⟩ := stC X3 hx hZ e3 Ar4 (j := (1 : Int32)) hin4 (g := (mkF m 13 #[.val (.int p1), .val (.int p2), .unset, .unset] [(.int (9 : Int32)), (.int (1 : Int32)), (.ref b1), (.ref b1)])) rfl rfl (hb hby at_13)
  refine own_go st5 ?_
  have V5 : Arv Z h5 b1 k1 .char (16 : Int32) [(.int ((8 : Int32).toUInt32.toUInt16.toUInt32.toInt32)), (.int ((9 : Int32).toUInt32.toUInt16.toUInt32.toInt32)), (.int (0 : Int32)), (.int (0 : Int32)), (.int (0 : Int32)), (.int (0 : Int32)), (.int (0 : Int32)), (.int (0 : Int32)), (.int (0 : Int32)), (.int (0 : Int32)), (.int (0 : Int32)), (.int (0 : Int32)), (.int (0 : Int32)), (.int (0 : Int32)), (.int (0 : Int32)), (.int (0 : Int32))] (.int (0 : Int32)) := Arv.set Ar4 q4 S4 M4 H4 G4 (fits_nar_char _) W5 1 rfl (Nat.le_of_ble_eq_true rfl)
  have N5 := Fr.snoc X5 N3 g_b1
  have K5 : Keep h0 h5 [] := K3.wr W5 (Or.inr sz_b1)
  show WP p e below _ (T5.setTop (mkF m 14 #[.val (.int p1), .val (.int p2), .unset, .unset] [(.ref b1)]))
  refine own_go (fun t_ k => XS.dup X5.here hx rfl (hb hby at_14) rfl rfl k) ?_
  show WP p e below _ (T5.setTop (mkF m 15 #[.val (.int p1), .val (.int p2), .unset, .unset] [(.ref b1), (.ref b1)]))
  refine own_go (fun t_ k => XS.iconst X5.here hx rfl (hb hby at_15) k) ?_
  show WP p e below _ (T5.setTop (mkF m 16 #[.val (.int p1), .val (.int p2), .unset, .unset] [(.int (2 : Int32)), (.ref b1), (.ref b1)]))
  refine own_go (fun t_ k => XS.bipush X5.here hx rfl (hb hby at_16) k) ?_
  show WP p e below _ (T5.setTop (mkF m 18 #[.val (.int p1), .val (.int p2), .unset, .unset] [(.int (10 : Int32)), (.int (2 : Int32)), (.ref b1), (.ref b1)]))
  obtain ⟨cl6, Ar6, q6, S6, M6, H6, G6⟩ := id (V5)
  have hin6 : ¬ ((2 : Int32) < 0 ∨ cl6.slots.size ≤ ((2 : Int32)).toNatClampNeg) := inb_of S6 (⟨by decide, by decide⟩)
  obtain ⟨T7, h7, X7, e7, W7, st7⟩ := stC X5 hx hZ e5 Ar6 (j := (2 : Int32)) hin6 (g := (mkF m 18 #[.val (.int p1), .val (.int p2), .unset, .unset] [(.int (10 : Int32)), (.int (2 : Int32)), (.ref b1), (.ref b1)])) rfl rfl (hb hby at_18)
  refine own_go st7 ?_
  have V7 : Arv Z h7 b1 k1 .char (16 : Int32) [(.int ((8 : Int32).toUInt32.toUInt16.toUInt32.toInt32)), (.int ((9 : Int32).toUInt32.toUInt16.toUInt32.toInt32)), (.int ((10 : Int32).toUInt32.toUInt16.toUInt32.toInt32)), (.int (0 : Int32)), (.int (0 : Int32)), (.int (0 : Int32)), (.int (0 : Int32)), (.int (0 : Int32)), (.int (0 : Int32)), (.int (0 : Int32)), (.int (0 : Int32)), (.int (0 : Int32)), (.int (0 : Int32)), (.int (0 : Int32)), (.int (0 : Int32)), (.int (0 : Int32))] (.int (0 : Int32)) := Arv.set Ar6 q6 S6 M6 H6 G6 (fits_nar_char _) W7 2 rfl (Nat.le_of_ble_eq_true rfl)
  have N7 := Fr.snoc X7 N5 g_b1
  have K7 : Keep h0 h7 [] := K5.wr W7 (Or.inr sz_b1)
  show WP p e below _ (T7.setTop (mkF m 19 #[.val (.int p1), .val (.int p2), .unset, .unset] [(.ref b1)]))
  refine own_go (fun t_ k => XS.dup X7.here hx rfl (hb hby at_19) rfl rfl k) ?_
  show WP p e below _ (T7.setTop (mkF m 20 #[.val (.int p1), .val (.int p2), .unset, .unset] [(.ref b1), (.ref b1)]))
  refine own_go (fun t_ k => XS.iconst X7.here hx rfl (hb hby at_20) k) ?_
  show WP p e below _ (T7.setTop (mkF m 21 #[.val (.int p1), .val (.int p2), .unset, .unset] [(.int (3 : Int32)), (.ref b1), (.ref b1)]))
  refine own_go (fun t_ k => XS.bipush X7.here hx rfl (hb hby at_21) k) ?_
  show WP p e below _ (T7.setTop (mkF m 23 #[.val (.int p1), .val (.int p2), .unset, .unset] [(.int (11 : Int32)), (.int (3 : Int32)), (.ref b1), (.ref b1)]))
  obtain ⟨cl8, Ar8, q8, S8, M8, H8, G8⟩ := id (V7)
  have hin8 : ¬ ((3 : Int32) < 0 ∨ cl8.slots.size ≤ ((3 : Int32)).toNatClampNeg) := inb_of S8 (⟨by decide, by decide⟩)
  obtain ⟨T9, h9, X9, e9, W9, st9⟩ := stC X7 hx hZ e7 Ar8 (j := (3 : Int32)) hin8 (g := (mkF m 23 #[.val (.int p1), .val (.int p2), .unset, .unset] [(.int (11 : Int32)), (.int (3 : Int32)), (.ref b1), (.ref b1)])) rfl rfl (hb hby at_23)
  refine own_go st9 ?_
  have V9 : Arv Z h9 b1 k1 .char (16 : Int32) [(.int ((8 : Int32).toUInt32.toUInt16.toUInt32.toInt32)), (.int ((9 : Int32).toUInt32.toUInt16.toUInt32.toInt32)), (.int ((10 : Int32).toUInt32.toUInt16.toUInt32.toInt32)), (.int ((11 : Int32).toUInt32.toUInt16.toUInt32.toInt32)), (.int (0 : Int32)), (.int (0 : Int32)), (.int (0 : Int32)), (.int (0 : Int32)), (.int (0 : Int32)), (.int (0 : Int32)), (.int (0 : Int32)), (.int (0 : Int32)), (.int (0 : Int32)), (.int (0 : Int32)), (.int (0 : Int32)), (.int (0 : Int32))] (.int (0 : Int32)) := Arv.set Ar8 q8 S8 M8 H8 G8 (fits_nar_char _) W9 3 rfl (Nat.le_of_ble_eq_true rfl)
  have N9 := Fr.snoc X9 N7 g_b1
  have K9 : Keep h0 h9 [] := K7.wr W9 (Or.inr sz_b1)
  show WP p e below _ (T9.setTop (mkF m 24 #[.val (.int p1), .val (.int p2), .unset, .unset] [(.ref b1)]))
  refine own_go (fun t_ k => XS.dup X9.here hx rfl (hb hby at_24) rfl rfl k) ?_
  show WP p e below _ (T9.setTop (mkF m 25 #[.val (.int p1), .val (.int p2), .unset, .unset] [(.ref b1), (.ref b1)]))
  refine own_go (fun t_ k => XS.iconst X9.here hx rfl (hb hby at_25) k) ?_
  show WP p e below _ (T9.setTop (mkF m 26 #[.val (.int p1), .val (.int p2), .unset, .unset] [(.int (4 : Int32)), (.ref b1), (.ref b1)]))
  refine own_go (fun t_ k => XS.bipush X9.here hx rfl (hb hby at_26) k) ?_
  show WP p e below _ (T9.setTop (mkF m 28 #[.val (.int p1), .val (.int p2), .unset, .unset] [(.int (12 : Int32)), (.int (4 : Int32)), (.ref b1), (.ref b1)]))
  obtain ⟨cl10, Ar10, q10, S10, M10, H10, G10⟩ := id (V9)
  have hin10 : ¬ ((4 : Int32) < 0 ∨ cl10.slots.size ≤ ((4 : Int32)).toNatClampNeg) := inb_of S10 (⟨by decide, by decide⟩)
  obtain ⟨T11, h11, X11, e11, W11, st11⟩ := stC X9 hx hZ e9 Ar10 (j := (4 : Int32)) hin10 (g := (mkF m 28 #[.val (.int p1), .val (.int p2), .unset, .unset] [(.int (12 : Int32)), (.int (4 : Int32)), (.ref b1), (.ref b1)])) rfl rfl (hb hby at_28)
  refine own_go st11 ?_
  have V11 : Arv Z h11 b1 k1 .char (16 : Int32) [(.int ((8 : Int32).toUInt32.toUInt16.toUInt32.toInt32)), (.int ((9 : Int32).toUInt32.toUInt16.toUInt32.toInt32)), (.int ((10 : Int32).toUInt32.toUInt16.toUInt32.toInt32)), (.int ((11 : Int32).toUInt32.toUInt16.toUInt32.toInt32)), (.int ((12 : Int32).toUInt32.toUInt16.toUInt32.toInt32)), (.int (0 : Int32)), (.int (0 : Int32)), (.int (0 : Int32)), (.int (0 : Int32)), (.int (0 : Int32)), (.int (0 : Int32)), (.int (0 : Int32)), (.int (0 : Int32)), (.int (0 : Int32)), (.int (0 : Int32)), (.int (0 : Int32))] (.int (0 : Int32)) := Arv.set Ar10 q10 S10 M10 H10 G10 (fits_nar_char _) W11 4 rfl (Nat.le_of_ble_eq_true rfl)
  have N11 := Fr.snoc X11 N9 g_b1
  have K11 : Keep h0 h11 [] := K9.wr W11 (Or.inr sz_b1)
  show WP p e below _ (T11.setTop (mkF m 29 #[.val (.int p1), .val (.int p2), .unset, .unset] [(.ref b1)]))
  refine own_go (fun t_ k => XS.dup X11.here hx rfl (hb hby at_29) rfl rfl k) ?_
  show WP p e below _ (T11.setTop (mkF m 30 #[.val (.int p1), .val (.int p2), .unset, .unset] [(.ref b1), (.ref b1)]))
  refine own_go (fun t_ k => XS.iconst X11.here hx rfl (hb hby at_30) k) ?_
  show WP p e below _ (T11.setTop (mkF m 31 #[.val (.int p1), .val (.int p2), .unset, .unset] [(.int (5 : Int32)), (.ref b1), (.ref b1)]))
  refine own_go (fun t_ k => XS.bipush X11.here hx rfl (hb hby at_31) k) ?_
  show WP p e below _ (T11.setTop (mkF m 33 #[.val (.int p1), .val (.int p2), .unset, .unset] [(.int (13 : Int32)), (.int (5 : Int32)), (.ref b1), (.ref b1)]))
  obtain ⟨cl12, Ar12, q12, S12, M12, H12, G12⟩ := id (V11)
  have hin12 : ¬ ((5 : Int32) < 0 ∨ cl12.slots.size ≤ ((5 : Int32)).toNatClampNeg) := inb_of S12 (⟨by decide, by decide⟩)
  obtain ⟨T13, h13, X13, e13, W13, st13⟩ := stC X11 hx hZ e11 Ar12 (j := (5 : Int32)) hin12 (g := (mkF m 33 #[.val (.int p1), .val (.int p2), .unset, .unset] [(.int (13 : Int32)), (.int (5 : Int32)), (.ref b1), (.ref b1)])) rfl rfl (hb hby at_33)
  refine own_go st13 ?_
  have V13 : Arv Z h13 b1 k1 .char (16 : Int32) [(.int ((8 : Int32).toUInt32.toUInt16.toUInt32.toInt32)), (.int ((9 : Int32).toUInt32.toUInt16.toUInt32.toInt32)), (.int ((10 : Int32).toUInt32.toUInt16.toUInt32.toInt32)), (.int ((11 : Int32).toUInt32.toUInt16.toUInt32.toInt32)), (.int ((12 : Int32).toUInt32.toUInt16.toUInt32.toInt32)), (.int ((13 : Int32).toUInt32.toUInt16.toUInt32.toInt32)), (.int (0 : Int32)), (.int (0 : Int32)), (.int (0 : Int32)), (.int (0 : Int32)), (.int (0 : Int32)), (.int (0 : Int32)), (.int (0 : Int32)), (.int (0 : Int32)), (.int (0 : Int32)), (.int (0 : Int32))] (.int (0 : Int32)) := Arv.set Ar12 q12 S12 M12 H12 G12 (fits_nar_char _) W13 5 rfl (Nat.le_of_ble_eq_true rfl)
  have N13 := Fr.snoc X13 N11 g_b1
  have K13 : Keep h0 h13 [] := K11.wr W13 (Or.inr sz_b1)
  show WP p e below _ (T13.setTop (mkF m 34 #[.val (.int p1), .val (.int p2), .unset, .unset] [(.ref b1)]))
  refine own_go (fun t_ k => XS.dup X13.here hx rfl (hb hby at_34) rfl rfl k) ?_
  show WP p e below _ (T13.setTop (mkF m 35 #[.val (.int p1), .val (.int p2), .unset, .unset] [(.ref b1), (.ref b1)]))
  refine own_go (fun t_ k => XS.bipush X13.here hx rfl (hb hby at_35) k) ?_
  show WP p e below _ (T13.setTop (mkF m 37 #[.val (.int p1), .val (.int p2), .unset, .unset] [(.int (6 : Int32)), (.ref b1), (.ref b1)]))
  refine own_go (fun t_ k => XS.bipush X13.here hx rfl (hb hby at_37) k) ?_
  show WP p e below _ (T13.setTop (mkF m 39 #[.val (.int p1), .val (.int p2), .unset, .unset] [(.int (14 : Int32)), (.int (6 : Int32)), (.ref b1), (.ref b1)]))
  obtain ⟨cl14, Ar14, q14, S14, M14, H14, G14⟩ := id (V13)
  have hin14 : ¬ ((6 : Int32) < 0 ∨ cl14.slots.size ≤ ((6 : Int32)).toNatClampNeg) := inb_of S14 (⟨by decide, by decide⟩)
  obtain ⟨T15, h15, X15, e15, W15, st15⟩ := stC X13 hx hZ e13 Ar14 (j := (6 : Int32)) hin14 (g := (mkF m 39 #[.val (.int p1), .val (.int p2), .unset, .unset] [(.int (14 : Int32)), (.int (6 : Int32)), (.ref b1), (.ref b1)])) rfl rfl (hb hby at_39)
  refine own_go st15 ?_
  have V15 : Arv Z h15 b1 k1 .char (16 : Int32) [(.int ((8 : Int32).toUInt32.toUInt16.toUInt32.toInt32)), (.int ((9 : Int32).toUInt32.toUInt16.toUInt32.toInt32)), (.int ((10 : Int32).toUInt32.toUInt16.toUInt32.toInt32)), (.int ((11 : Int32).toUInt32.toUInt16.toUInt32.toInt32)), (.int ((12 : Int32).toUInt32.toUInt16.toUInt32.toInt32)), (.int ((13 : Int32).toUInt32.toUInt16.toUInt32.toInt32)), (.int ((14 : Int32).toUInt32.toUInt16.toUInt32.toInt32)), (.int (0 : Int32)), (.int (0 : Int32)), (.int (0 : Int32)), (.int (0 : Int32)), (.int (0 : Int32)), (.int (0 : Int32)), (.int (0 : Int32)), (.int (0 : Int32)), (.int (0 : Int32))] (.int (0 : Int32)) := Arv.set Ar14 q14 S14 M14 H14 G14 (fits_nar_char _) W15 6 rfl (Nat.le_of_ble_eq_true rfl)
  have N15 := Fr.snoc X15 N13 g_b1
  have K15 : Keep h0 h15 [] := K13.wr W15 (Or.inr sz_b1)
  show WP p e below _ (T15.setTop (mkF m 40 #[.val (.int p1), .val (.int p2), .unset, .unset] [(.ref b1)]))
  refine own_go (fun t_ k => XS.dup X15.here hx rfl (hb hby at_40) rfl rfl k) ?_
  show WP p e below _ (T15.setTop (mkF m 41 #[.val (.int p1), .val (.int p2), .unset, .unset] [(.ref b1), (.ref b1)]))
  refine own_go (fun t_ k => XS.bipush X15.here hx rfl (hb hby at_41) k) ?_
  show WP p e below _ (T15.setTop (mkF m 43 #[.val (.int p1), .val (.int p2), .unset, .unset] [(.int (7 : Int32)), (.ref b1), (.ref b1)]))
  refine own_go (fun t_ k => XS.bipush X15.here hx rfl (hb hby at_43) k) ?_
  show WP p e below _ (T15.setTop (mkF m 45 #[.val (.int p1), .val (.int p2), .unset, .unset] [(.int (31 : Int32)), (.int (7 : Int32)), (.ref b1), (.ref b1)]))
  obtain ⟨cl16, Ar16, q16, S16, M16, H16, G16⟩ := id (V15)
  have hin16 : ¬ ((7 : Int32) < 0 ∨ cl16.slots.size ≤ ((7 : Int32)).toNatClampNeg) := inb_of S16 (⟨by decide, by decide⟩)
  obtain ⟨T17, h17, X17, e17, W17, st17⟩ := stC X15 hx hZ e15 Ar16 (j := (7 : Int32)) hin16 (g := (mkF m 45 #[.val (.int p1), .val (.int p2), .unset, .unset] [(.int (31 : Int32)), (.int (7 : Int32)), (.ref b1), (.ref b1)])) rfl rfl (hb hby at_45)
  refine own_go st17 ?_
  have V17 : Arv Z h17 b1 k1 .char (16 : Int32) [(.int ((8 : Int32).toUInt32.toUInt16.toUInt32.toInt32)), (.int ((9 : Int32).toUInt32.toUInt16.toUInt32.toInt32)), (.int ((10 : Int32).toUInt32.toUInt16.toUInt32.toInt32)), (.int ((11 : Int32).toUInt32.toUInt16.toUInt32.toInt32)), (.int ((12 : Int32).toUInt32.toUInt16.toUInt32.toInt32)), (.int ((13 : Int32).toUInt32.toUInt16.toUInt32.toInt32)), (.int ((14 : Int32).toUInt32.toUInt16.toUInt32.toInt32)), (.int ((31 : Int32).toUInt32.toUInt16.toUInt32.toInt32)), (.int (0 : Int32)), (.int (0 : Int32)), (.int (0 : Int32)), (.int (0 : Int32)), (.int (0 : Int32)), (.int (0 : Int32)), (.int (0 : Int32)), (.int (0 : Int32))] (.int (0 : Int32)) := Arv.set Ar16 q16 S16 M16 H16 G16 (fits_nar_char _) W17 7 rfl (Nat.le_of_ble_eq_true rfl)
  have N17 := Fr.snoc X17 N15 g_b1
  have K17 : Keep h0 h17 [] := K15.wr W17 (Or.inr sz_b1)
  show WP p e below _ (T17.setTop (mkF m 46 #[.val (.int p1), .val (.int p2), .unset, .unset] [(.ref b1)]))
  refine own_go (fun t_ k => XS.dup X17.here hx rfl (hb hby at_46) rfl rfl k) ?_
  show WP p e below _ (T17.setTop (mkF m 47 #[.val (.int p1), .val (.int p2), .unset, .unset] [(.ref b1), (.ref b1)]))
  refine own_go (fun t_ k => XS.bipush X17.here hx rfl (hb hby at_47) k) ?_
  show WP p e below _ (T17.setTop (mkF m 49 #[.val (.int p1), .val (.int p2), .unset, .unset] [(.int (8 : Int32)), (.ref b1), (.ref b1)]))
  refine own_go (fun t_ k => XS.bipush X17.here hx rfl (hb hby at_49) k) ?_
  show WP p e below _ (T17.setTop (mkF m 51 #[.val (.int p1), .val (.int p2), .unset, .unset] [(.int (32 : Int32)), (.int (8 : Int32)), (.ref b1), (.ref b1)]))
  obtain ⟨cl18, Ar18, q18, S18, M18, H18, G18⟩ := id (V17)
  have hin18 : ¬ ((8 : Int32) < 0 ∨ cl18.slots.size ≤ ((8 : Int32)).toNatClampNeg) := inb_of S18 (⟨by decide, by decide⟩)
  obtain ⟨T19, h19, X19, e19, W19, st19⟩ := stC X17 hx hZ e17 Ar18 (j := (8 : Int32)) hin18 (g := (mkF m 51 #[.val (.int p1), .val (.int p2), .unset, .unset] [(.int (32 : Int32)), (.int (8 : Int32)), (.ref b1), (.ref b1)])) rfl rfl (hb hby at_51)
  refine own_go st19 ?_
  have V19 : Arv Z h19 b1 k1 .char (16 : Int32) [(.int ((8 : Int32).toUInt32.toUInt16.toUInt32.toInt32)), (.int ((9 : Int32).toUInt32.toUInt16.toUInt32.toInt32)), (.int ((10 : Int32).toUInt32.toUInt16.toUInt32.toInt32)), (.int ((11 : Int32).toUInt32.toUInt16.toUInt32.toInt32)), (.int ((12 : Int32).toUInt32.toUInt16.toUInt32.toInt32)), (.int ((13 : Int32).toUInt32.toUInt16.toUInt32.toInt32)), (.int ((14 : Int32).toUInt32.toUInt16.toUInt32.toInt32)), (.int ((31 : Int32).toUInt32.toUInt16.toUInt32.toInt32)), (.int ((32 : Int32).toUInt32.toUInt16.toUInt32.toInt32)), (.int (0 : Int32)), (.int (0 : Int32)), (.int (0 : Int32)), (.int (0 : Int32)), (.int (0 : Int32)), (.int (0 : Int32)), (.int (0 : Int32))] (.int (0 : Int32)) := Arv.set Ar18 q18 S18 M18 H18 G18 (fits_nar_char _) W19 8 rfl (Nat.le_of_ble_eq_true rfl)
  have N19 := Fr.snoc X19 N17 g_b1
  have K19 : Keep h0 h19 [] := K17.wr W19 (Or.inr sz_b1)
  show WP p e below _ (T19.setTop (mkF m 52 #[.val (.int p1), .val (.int p2), .unset, .unset] [(.ref b1)]))
  refine own_go (fun t_ k => XS.dup X19.here hx rfl (hb hby at_52) rfl rfl k) ?_
  show WP p e below _ (T19.setTop (mkF m 53 #[.val (.int p1), .val (.int p2), .unset, .unset] [(.ref b1), (.ref b1)]))
  refine own_go (fun t_ k => XS.bipush X19.here hx rfl (hb hby at_53) k) ?_
  show WP p e below _ (T19.setTop (mkF m 55 #[.val (.int p1), .val (.int p2), .unset, .unset] [(.int (9 : Int32)), (.ref b1), (.ref b1)]))
  refine own_go (fun t_ k => XS.bipush X19.here hx rfl (hb hby at_55) k) ?_
  show WP p e below _ (T19.setTop (mkF m 57 #[.val (.int p1), .val (.int p2), .unset, .unset] [(.int (33 : Int32)), (.int (9 : Int32)), (.ref b1), (.ref b1)]))
  obtain ⟨cl20, Ar20, q20, S20, M20, H20, G20⟩ := id (V19)
  have hin20 : ¬ ((9 : Int32) < 0 ∨ cl20.slots.size ≤ ((9 : Int32)).toNatClampNeg) := inb_of S20 (⟨by decide, by decide⟩)
  obtain ⟨T21, h21, X21, e21, W21, st21⟩ := stC X19 hx hZ e19 Ar20 (j := (9 : Int32)) hin20 (g := (mkF m 57 #[.val (.int p1), .val (.int p2), .unset, .unset] [(.int (33 : Int32)), (.int (9 : Int32)), (.ref b1), (.ref b1)])) rfl rfl (hb hby at_57)
  refine own_go st21 ?_
  have V21 : Arv Z h21 b1 k1 .char (16 : Int32) [(.int ((8 : Int32).toUInt32.toUInt16.toUInt32.toInt32)), (.int ((9 : Int32).toUInt32.toUInt16.toUInt32.toInt32)), (.int ((10 : Int32).toUInt32.toUInt16.toUInt32.toInt32)), (.int ((11 : Int32).toUInt32.toUInt16.toUInt32.toInt32)), (.int ((12 : Int32).toUInt32.toUInt16.toUInt32.toInt32)), (.int ((13 : Int32).toUInt32.toUInt16.toUInt32.toInt32)), (.int ((14 : Int32).toUInt32.toUInt16.toUInt32.toInt32)), (.int ((31 : Int32).toUInt32.toUInt16.toUInt32.toInt32)), (.int ((32 : Int32).toUInt32.toUInt16.toUInt32.toInt32)), (.int ((33 : Int32).toUInt32.toUInt16.toUInt32.toInt32)), (.int (0 : Int32)), (.int (0 : Int32)), (.int (0 : Int32)), (.int (0 : Int32)), (.int (0 : Int32)), (.int (0 : Int32))] (.int (0 : Int32)) := Arv.set Ar20 q20 S20 M20 H20 G20 (fits_nar_char _) W21 9 rfl (Nat.le_of_ble_eq_true rfl)
  have N21 := Fr.snoc X21 N19 g_b1
  have K21 : Keep h0 h21 [] := K19.wr W21 (Or.inr sz_b1)
  show WP p e below _ (T21.setTop (mkF m 58 #[.val (.int p1), .val (.int p2), .unset, .unset] [(.ref b1)]))
  refine own_go (fun t_ k => XS.dup X21.here hx rfl (hb hby at_58) rfl rfl k) ?_
  show WP p e below _ (T21.setTop (mkF m 59 #[.val (.int p1), .val (.int p2), .unset, .unset] [(.ref b1), (.ref b1)]))
  refine own_go (fun t_ k => XS.bipush X21.here hx rfl (hb hby at_59) k) ?_
  show WP p e below _ (T21.setTop (mkF m 61 #[.val (.int p1), .val (.int p2), .unset, .unset] [(.int (10 : Int32)), (.ref b1), (.ref b1)]))
  refine own_go (fun t_ k => XS.sipush X21.here hx rfl (hb hby at_61) k) ?_
  show WP p e below _ (T21.setTop (mkF m 64 #[.val (.int p1), .val (.int p2), .unset, .unset] [(.int (159 : Int32)), (.int (10 : Int32)), (.ref b1), (.ref b1)]))
  obtain ⟨cl22, Ar22, q22, S22, M22, H22, G22⟩ := id (V21)
  have hin22 : ¬ ((10 : Int32) < 0 ∨ cl22.slots.size ≤ ((10 : Int32)).toNatClampNeg) := inb_of S22 (⟨by decide, by decide⟩)
  obtain ⟨T23, h23, X23, e23, W23, st23⟩ := stC X21 hx hZ e21 Ar22 (j := (10 : Int32)) hin22 (g := (mkF m 64 #[.val (.int p1), .val (.int p2), .unset, .unset] [(.int (159 : Int32)), (.int (10 : Int32)), (.ref b1), (.ref b1)])) rfl rfl (hb hby at_64)
  refine own_go st23 ?_
  have V23 : Arv Z h23 b1 k1 .char (16 : Int32) [(.int ((8 : Int32).toUInt32.toUInt16.toUInt32.toInt32)), (.int ((9 : Int32).toUInt32.toUInt16.toUInt32.toInt32)), (.int ((10 : Int32).toUInt32.toUInt16.toUInt32.toInt32)), (.int ((11 : Int32).toUInt32.toUInt16.toUInt32.toInt32)), (.int ((12 : Int32).toUInt32.toUInt16.toUInt32.toInt32)), (.int ((13 : Int32).toUInt32.toUInt16.toUInt32.toInt32)), (.int ((14 : Int32).toUInt32.toUInt16.toUInt32.toInt32)), (.int ((31 : Int32).toUInt32.toUInt16.toUInt32.toInt32)), (.int ((32 : Int32).toUInt32.toUInt16.toUInt32.toInt32)), (.int ((33 : Int32).toUInt32.toUInt16.toUInt32.toInt32)), (.int ((159 : Int32).toUInt32.toUInt16.toUInt32.toInt32)), (.int (0 : Int32)), (.int (0 : Int32)), (.int (0 : Int32)), (.int (0 : Int32)), (.int (0 : Int32))] (.int (0 : Int32)) := Arv.set Ar22 q22 S22 M22 H22 G22 (fits_nar_char _) W23 10 rfl (Nat.le_of_ble_eq_true rfl)
  have N23 := Fr.snoc X23 N21 g_b1
  have K23 : Keep h0 h23 [] := K21.wr W23 (Or.inr sz_b1)
  show WP p e below _ (T23.setTop (mkF m 65 #[.val (.int p1), .val (.int p2), .unset, .unset] [(.ref b1)]))
  refine own_go (fun t_ k => XS.dup X23.here hx rfl (hb hby at_65) rfl rfl k) ?_
  show WP p e below _ (T23.setTop (mkF m 66 #[.val (.int p1), .val (.int p2), .unset, .unset] [(.ref b1), (.ref b1)]))
  refine own_go (fun t_ k => XS.bipush X23.here hx rfl (hb hby at_66) k) ?_
  show WP p e below _ (T23.setTop (mkF m 68 #[.val (.int p1), .val (.int p2), .unset, .unset] [(.int (11 : Int32)), (.ref b1), (.ref b1)]))
  refine own_go (fun t_ k => XS.sipush X23.here hx rfl (hb hby at_68) k) ?_
  show WP p e below _ (T23.setTop (mkF m 71 #[.val (.int p1), .val (.int p2), .unset, .unset] [(.int (160 : Int32)), (.int (11 : Int32)), (.ref b1), (.ref b1)]))
  obtain ⟨cl24, Ar24, q24, S24, M24, H24, G24⟩ := id (V23)
  have hin24 : ¬ ((11 : Int32) < 0 ∨ cl24.slots.size ≤ ((11 : Int32)).toNatClampNeg) := inb_of S24 (⟨by decide, by decide⟩)
  obtain ⟨T25, h25, X25, e25, W25, st25⟩ := stC X23 hx hZ e23 Ar24 (j := (11 : Int32)) hin24 (g := (mkF m 71 #[.val (.int p1), .val (.int p2), .unset, .unset] [(.int (160 : Int32)), (.int (11 : Int32)), (.ref b1), (.ref b1)])) rfl rfl (hb hby at_71)
  refine own_go st25 ?_
  have V25 : Arv Z h25 b1 k1 .char (16 : Int32) [(.int ((8 : Int32).toUInt32.toUInt16.toUInt32.toInt32)), (.int ((9 : Int32).toUInt32.toUInt16.toUInt32.toInt32)), (.int ((10 : Int32).toUInt32.toUInt16.toUInt32.toInt32)), (.int ((11 : Int32).toUInt32.toUInt16.toUInt32.toInt32)), (.int ((12 : Int32).toUInt32.toUInt16.toUInt32.toInt32)), (.int ((13 : Int32).toUInt32.toUInt16.toUInt32.toInt32)), (.int ((14 : Int32).toUInt32.toUInt16.toUInt32.toInt32)), (.int ((31 : Int32).toUInt32.toUInt16.toUInt32.toInt32)), (.int ((32 : Int32).toUInt32.toUInt16.toUInt32.toInt32)), (.int ((33 : Int32).toUInt32.toUInt16.toUInt32.toInt32)), (.int ((159 : Int32).toUInt32.toUInt16.toUInt32.toInt32)), (.int ((160 : Int32).toUInt32.toUInt16.toUInt32.toInt32)), (.int (0 : Int32)), (.int (0 : Int32)), (.int (0 : Int32)), (.int (0 : Int32))] (.int (0 : Int32)) := Arv.set Ar24 q24 S24 M24 H24 G24 (fits_nar_char _) W25 11 rfl (Nat.le_of_ble_eq_true rfl)
  have N25 := Fr.snoc X25 N23 g_b1
  have K25 : Keep h0 h25 [] := K23.wr W25 (Or.inr sz_b1)
  show WP p e below _ (T25.setTop (mkF m 72 #[.val (.int p1), .val (.int p2), .unset, .unset] [(.ref b1)]))
  refine own_go (fun t_ k => XS.dup X25.here hx rfl (hb hby at_72) rfl rfl k) ?_
  show WP p e below _ (T25.setTop (mkF m 73 #[.val (.int p1), .val (.int p2), .unset, .unset] [(.ref b1), (.ref b1)]))
  refine own_go (fun t_ k => XS.bipush X25.here hx rfl (hb hby at_73) k) ?_
  show WP p e below _ (T25.setTop (mkF m 75 #[.val (.int p1), .val (.int p2), .unset, .unset] [(.int (12 : Int32)), (.ref b1), (.ref b1)]))
  refine own_go (fun t_ k => XS.sipush X25.here hx rfl (hb hby at_75) k) ?_
  show WP p e below _ (T25.setTop (mkF m 78 #[.val (.int p1), .val (.int p2), .unset, .unset] [(.int (161 : Int32)), (.int (12 : Int32)), (.ref b1), (.ref b1)]))
  obtain ⟨cl26, Ar26, q26, S26, M26, H26, G26⟩ := id (V25)
  have hin26 : ¬ ((12 : Int32) < 0 ∨ cl26.slots.size ≤ ((12 : Int32)).toNatClampNeg) := inb_of S26 (⟨by decide, by decide⟩)
  obtain ⟨T27, h27, X27, e27, W27, st27⟩ := stC X25 hx hZ e25 Ar26 (j := (12 : Int32)) hin26 (g := (mkF m 78 #[.val (.int p1), .val (.int p2), .unset, .unset] [(.int (161 : Int32)), (.int (12 : Int32)), (.ref b1), (.ref b1)])) rfl rfl (hb hby at_78)
  refine own_go st27 ?_
  have V27 : Arv Z h27 b1 k1 .char (16 : Int32) [(.int ((8 : Int32).toUInt32.toUInt16.toUInt32.toInt32)), (.int ((9 : Int32).toUInt32.toUInt16.toUInt32.toInt32)), (.int ((10 : Int32).toUInt32.toUInt16.toUInt32.toInt32)), (.int ((11 : Int32).toUInt32.toUInt16.toUInt32.toInt32)), (.int ((12 : Int32).toUInt32.toUInt16.toUInt32.toInt32)), (.int ((13 : Int32).toUInt32.toUInt16.toUInt32.toInt32)), (.int ((14 : Int32).toUInt32.toUInt16.toUInt32.toInt32)), (.int ((31 : Int32).toUInt32.toUInt16.toUInt32.toInt32)), (.int ((32 : Int32).toUInt32.toUInt16.toUInt32.toInt32)), (.int ((33 : Int32).toUInt32.toUInt16.toUInt32.toInt32)), (.int ((159 : Int32).toUInt32.toUInt16.toUInt32.toInt32)), (.int ((160 : Int32).toUInt32.toUInt16.toUInt32.toInt32)), (.int ((161 : Int32).toUInt32.toUInt16.toUInt32.toInt32)), (.int (0 : Int32)), (.int (0 : Int32)), (.int (0 : Int32))] (.int (0 : Int32)) := Arv.set Ar26 q26 S26 M26 H26 G26 (fits_nar_char _) W27 12 rfl (Nat.le_of_ble_eq_true rfl)
  have N27 := Fr.snoc X27 N25 g_b1
  have K27 : Keep h0 h27 [] := K25.wr W27 (Or.inr sz_b1)
  show WP p e below _ (T27.setTop (mkF m 79 #[.val (.int p1), .val (.int p2), .unset, .unset] [(.ref b1)]))
  refine own_go (fun t_ k => XS.dup X27.here hx rfl (hb hby at_79) rfl rfl k) ?_
  show WP p e below _ (T27.setTop (mkF m 80 #[.val (.int p1), .val (.int p2), .unset, .unset] [(.ref b1), (.ref b1)]))
  refine own_go (fun t_ k => XS.bipush X27.here hx rfl (hb hby at_80) k) ?_
  show WP p e below _ (T27.setTop (mkF m 82 #[.val (.int p1), .val (.int p2), .unset, .unset] [(.int (13 : Int32)), (.ref b1), (.ref b1)]))
  refine own_go (fun t_ k => XS.iconst X27.here hx rfl (hb hby at_82) k) ?_
  show WP p e below _ (T27.setTop (mkF m 83 #[.val (.int p1), .val (.int p2), .unset, .unset] [(.int (0 : Int32)), (.int (13 : Int32)), (.ref b1), (.ref b1)]))
  obtain ⟨cl28, Ar28, q28, S28, M28, H28, G28⟩ := id (V27)
  have hin28 : ¬ ((13 : Int32) < 0 ∨ cl28.slots.size ≤ ((13 : Int32)).toNatClampNeg) := inb_of S28 (⟨by decide, by decide⟩)
  obtain ⟨T29, h29, X29, e29, W29, st29⟩ := stC X27 hx hZ e27 Ar28 (j := (13 : Int32)) hin28 (g := (mkF m 83 #[.val (.int p1), .val (.int p2), .unset, .unset] [(.int (0 : Int32)), (.int (13 : Int32)), (.ref b1), (.ref b1)])) rfl rfl (hb hby at_83)
  refine own_go st29 ?_
  have V29 : Arv Z h29 b1 k1 .char (16 : Int32) [(.int ((8 : Int32).toUInt32.toUInt16.toUInt32.toInt32)), (.int ((9 : Int32).toUInt32.toUInt16.toUInt32.toInt32)), (.int ((10 : Int32).toUInt32.toUInt16.toUInt32.toInt32)), (.int ((11 : Int32).toUInt32.toUInt16.toUInt32.toInt32)), (.int ((12 : Int32).toUInt32.toUInt16.toUInt32.toInt32)), (.int ((13 : Int32).toUInt32.toUInt16.toUInt32.toInt32)), (.int ((14 : Int32).toUInt32.toUInt16.toUInt32.toInt32)), (.int ((31 : Int32).toUInt32.toUInt16.toUInt32.toInt32)), (.int ((32 : Int32).toUInt32.toUInt16.toUInt32.toInt32)), (.int ((33 : Int32).toUInt32.toUInt16.toUInt32.toInt32)), (.int ((159 : Int32).toUInt32.toUInt16.toUInt32.toInt32)), (.int ((160 : Int32).toUInt32.toUInt16.toUInt32.toInt32)), (.int ((161 : Int32).toUInt32.toUInt16.toUInt32.toInt32)), (.int ((0 : Int32).toUInt32.toUInt16.toUInt32.toInt32)), (.int (0 : Int32)), (.int (0 : Int32))] (.int (0 : Int32)) := Arv.set Ar28 q28 S28 M28 H28 G28 (fits_nar_char _) W29 13 rfl (Nat.le_of_ble_eq_true rfl)
  have N29 := Fr.snoc X29 N27 g_b1
  have K29 : Keep h0 h29 [] := K27.wr W29 (Or.inr sz_b1)
  show WP p e below _ (T29.setTop (mkF m 84 #[.val (.int p1), .val (.int p2), .unset, .unset] [(.ref b1)]))
  refine own_go (fun t_ k => XS.dup X29.here hx rfl (hb hby at_84) rfl rfl k) ?_
  show WP p e below _ (T29.setTop (mkF m 85 #[.val (.int p1), .val (.int p2), .unset, .unset] [(.ref b1), (.ref b1)]))
  refine own_go (fun t_ k => XS.bipush X29.here hx rfl (hb hby at_85) k) ?_
  show WP p e below _ (T29.setTop (mkF m 87 #[.val (.int p1), .val (.int p2), .unset, .unset] [(.int (14 : Int32)), (.ref b1), (.ref b1)]))
  refine own_go (fun t_ k => X29.ldcInt hx hown (mvT hZ (hw _ (List.mem_of_getElem? (i := 1) rfl))) (g := (mkF m 87 #[.val (.int p1), .val (.int p2), .unset, .unset] [(.int (14 : Int32)), (.ref b1), (.ref b1)])) rfl (hb hby at_87) _ k) ?_
  show WP p e below _ (T29.setTop (mkF m 89 #[.val (.int p1), .val (.int p2), .unset, .unset] [(.int (65535 : Int32)), (.int (14 : Int32)), (.ref b1), (.ref b1)]))
  obtain ⟨cl30, Ar30, q30, S30, M30, H30, G30⟩ := id (V29)
  have hin30 : ¬ ((14 : Int32) < 0 ∨ cl30.slots.size ≤ ((14 : Int32)).toNatClampNeg) := inb_of S30 (⟨by decide, by decide⟩)
  obtain ⟨T31, h31, X31, e31, W31, st31⟩ := stC X29 hx hZ e29 Ar30 (j := (14 : Int32)) hin30 (g := (mkF m 89 #[.val (.int p1), .val (.int p2), .unset, .unset] [(.int (65535 : Int32)), (.int (14 : Int32)), (.ref b1), (.ref b1)])) rfl rfl (hb hby at_89)
  refine own_go st31 ?_
  have V31 : Arv Z h31 b1 k1 .char (16 : Int32) [(.int ((8 : Int32).toUInt32.toUInt16.toUInt32.toInt32)), (.int ((9 : Int32).toUInt32.toUInt16.toUInt32.toInt32)), (.int ((10 : Int32).toUInt32.toUInt16.toUInt32.toInt32)), (.int ((11 : Int32).toUInt32.toUInt16.toUInt32.toInt32)), (.int ((12 : Int32).toUInt32.toUInt16.toUInt32.toInt32)), (.int ((13 : Int32).toUInt32.toUInt16.toUInt32.toInt32)), (.int ((14 : Int32).toUInt32.toUInt16.toUInt32.toInt32)), (.int ((31 : Int32).toUInt32.toUInt16.toUInt32.toInt32)), (.int ((32 : Int32).toUInt32.toUInt16.toUInt32.toInt32)), (.int ((33 : Int32).toUInt32.toUInt16.toUInt32.toInt32)), (.int ((159 : Int32).toUInt32.toUInt16.toUInt32.toInt32)), (.int ((160 : Int32).toUInt32.toUInt16.toUInt32.toInt32)), (.int ((161 : Int32).toUInt32.toUInt16.toUInt32.toInt32)), (.int ((0 : Int32).toUInt32.toUInt16.toUInt32.toInt32)), (.int ((65535 : Int32).toUInt32.toUInt16.toUInt32.toInt32)), (.int (0 : Int32))] (.int (0 : Int32)) := Arv.set Ar30 q30 S30 M30 H30 G30 (fits_nar_char _) W31 14 rfl (Nat.le_of_ble_eq_true rfl)
  have N31 := Fr.snoc X31 N29 g_b1
  have K31 : Keep h0 h31 [] := K29.wr W31 (Or.inr sz_b1)
  show WP p e below _ (T31.setTop (mkF m 90 #[.val (.int p1), .val (.int p2), .unset, .unset] [(.ref b1)]))
  refine own_go (fun t_ k => XS.dup X31.here hx rfl (hb hby at_90) rfl rfl k) ?_
  show WP p e below _ (T31.setTop (mkF m 91 #[.val (.int p1), .val (.int p2), .unset, .unset] [(.ref b1), (.ref b1)]))
  refine own_go (fun t_ k => XS.bipush X31.here hx rfl (hb hby at_91) k) ?_
  show WP p e below _ (T31.setTop (mkF m 93 #[.val (.int p1), .val (.int p2), .unset, .unset] [(.int (15 : Int32)), (.ref b1), (.ref b1)]))
  refine own_go (fun t_ k => XS.sipush X31.here hx rfl (hb hby at_93) k) ?_
  show WP p e below _ (T31.setTop (mkF m 96 #[.val (.int p1), .val (.int p2), .unset, .unset] [(.int (8199 : Int32)), (.int (15 : Int32)), (.ref b1), (.ref b1)]))
  obtain ⟨cl32, Ar32, q32, S32, M32, H32, G32⟩ := id (V31)
  have hin32 : ¬ ((15 : Int32) < 0 ∨ cl32.slots.size ≤ ((15 : Int32)).toNatClampNeg) := inb_of S32 (⟨by decide, by decide⟩)
  obtain ⟨T33, h33, X33, e33, W33, st33⟩ := stC X31 hx hZ e31 Ar32 (j := (15 : Int32)) hin32 (g := (mkF m 96 #[.val (.int p1), .val (.int p2), .unset, .unset] [(.int (8199 : Int32)), (.int (15 : Int32)), (.ref b1), (.ref b1)])) rfl rfl (hb hby at_96)
  refine own_go st33 ?_
  have V33 : Arv Z h33 b1 k1 .char (16 : Int32) [(.int ((8 : Int32).toUInt32.toUInt16.toUInt32.toInt32)), (.int ((9 : Int32).toUInt32.toUInt16.toUInt32.toInt32)), (.int ((10 : Int32).toUInt32.toUInt16.toUInt32.toInt32)), (.int ((11 : Int32).toUInt32.toUInt16.toUInt32.toInt32)), (.int ((12 : Int32).toUInt32.toUInt16.toUInt32.toInt32)), (.int ((13 : Int32).toUInt32.toUInt16.toUInt32.toInt32)), (.int ((14 : Int32).toUInt32.toUInt16.toUInt32.toInt32)), (.int ((31 : Int32).toUInt32.toUInt16.toUInt32.toInt32)), (.int ((32 : Int32).toUInt32.toUInt16.toUInt32.toInt32)), (.int ((33 : Int32).toUInt32.toUInt16.toUInt32.toInt32)), (.int ((159 : Int32).toUInt32.toUInt16.toUInt32.toInt32)), (.int ((160 : Int32).toUInt32.toUInt16.toUInt32.toInt32)), (.int ((161 : Int32).toUInt32.toUInt16.toUInt32.toInt32)), (.int ((0 : Int32).toUInt32.toUInt16.toUInt32.toInt32)), (.int ((65535 : Int32).toUInt32.toUInt16.toUInt32.toInt32)), (.int ((8199 : Int32).toUInt32.toUInt16.toUInt32.toInt32))] (.int (0 : Int32)) := Arv.set Ar32 q32 S32 M32 H32 G32 (fits_nar_char _) W33 15 rfl (Nat.le_of_ble_eq_true rfl)
  have N33 := Fr.snoc X33 N31 g_b1
  have K33 : Keep h0 h33 [] := K31.wr W33 (Or.inr sz_b1)
  show WP p e below _ (T33.setTop (mkF m 97 #[.val (.int p1), .val (.int p2), .unset, .unset] [(.ref b1)]))
  refine own_go (fun t_ k => XS.astoreN X33.here hx rfl (hb hby at_97) rfl rfl (l' := #[.val (.int p1), .val (.int p2), .val (.ref b1), .unset]) rfl k) ?_
  show WP p e below _ (T33.setTop (mkF m 98 #[.val (.int p1), .val (.int p2), .val (.ref b1), .unset] []))
  refine own_go (fun t_ k => XS.iloadN X33.here hx rfl (hb hby at_98) rfl k) ?_
  show WP p e below _ (T33.setTop (mkF m 99 #[.val (.int p1), .val (.int p2), .val (.ref b1), .unset] [(.int p2)]))
  refine own_go (fun t_ k => XS.bipush X33.here hx rfl (hb hby at_99) k) ?_
  show WP p e below _ (T33.setTop (mkF m 101 #[.val (.int p1), .val (.int p2), .val (.ref b1), .unset] [(.int (16 : Int32)), (.int p2)]))
  refine own_go (fun t_ k => XS.iand X33.here hx rfl (hb hby at_101) rfl k) ?_
  show WP p e below _ (T33.setTop (mkF m 102 #[.val (.int p1), .val (.int p2), .val (.ref b1), .unset] [(.int (p2 &&& (16 : Int32)))]))
  by_cases hc102_34 : (p2 &&& (16 : Int32)) = (0 : Int32)
  · refine own_go (fun t_ k => XS.ifYes X33.here hx rfl (pc0 := 102) (pc' := 115) rfl (hb hby at_102) rfl ((if0 _ _).trans (teq hc102_34).1) (by decide) (by decide) k) ?_
    show WP p e below _ (T33.setTop (mkF m 115 #[.val (.int p1), .val (.int p2), .val (.ref b1), .unset] []))
    refine own_go (fun t_ k => XS.iloadN X33.here hx rfl (hb hby at_115) rfl k) ?_
    show WP p e below _ (T33.setTop (mkF m 116 #[.val (.int p1), .val (.int p2), .val (.ref b1), .unset] [(.int p1)]))
    refine own_go (fun t_ k => XS.i2c X33.here hx rfl (hb hby at_116) rfl k) ?_
    show WP p e below _ (T33.setTop (mkF m 117 #[.val (.int p1), .val (.int p2), .val (.ref b1), .unset] [(.int (p1.toUInt32.toUInt16.toUInt32.toInt32))]))
    refine own_go (fun t_ k => XS.istoreN X33.here hx rfl (hb hby at_117) rfl (l' := #[.val (.int p1), .val (.int p2), .val (.ref b1), .val (.int (p1.toUInt32.toUInt16.toUInt32.toInt32))]) rfl k) ?_
    show WP p e below _ (T33.setTop (mkF m 118 #[.val (.int p1), .val (.int p2), .val (.ref b1), .val (.int (p1.toUInt32.toUInt16.toUInt32.toInt32))] []))
    generalize he35 : (p1.toUInt32.toUInt16.toUInt32.toInt32) = vi35
    show WP p e below _ (T33.setTop (mkF m 118 #[.val (.int p1), .val (.int p2), .val (.ref b1), .val (.int vi35)] []))
    refine own_go (fun t_ k => XS.iloadN X33.here hx rfl (hb hby at_118) rfl k) ?_
    show WP p e below _ (T33.setTop (mkF m 119 #[.val (.int p1), .val (.int p2), .val (.ref b1), .val (.int vi35)] [(.int vi35)]))
    obtain ⟨_, _, ⟨T36, L36, k36, n36⟩, -, X36, ⟨Lc36, hQ36, l36, y36, z36⟩, st36⟩ := Jvm.LawKit.callS X33 hx (y := (⟨"com/example/covenant_atlas/covenantatlas/analysis/Spacing", "isGap", "(C)Z"⟩ : MethodName)) hown (mvT hZ (hw _ (List.mem_of_getElem? (i := 2) rfl))) (mvT hZ (hw _ (List.mem_of_getElem? (i := 3) rfl))) (mvT hZ (hw _ (List.mem_of_getElem? (i := 4) rfl))) (mvT hZ (hw _ (List.mem_of_getElem? (i := 5) rfl))) (by decide) (backOf (W := 0) (rm1 l Z a0 hw [] vi35 h33 n0) hZ (hw _ (List.mem_of_getElem? (i := 5) rfl)) (hw _ (List.mem_of_getElem? (i := 4) rfl)) (by decide) (by decide)) (g := (mkF m 119 #[.val (.int p1), .val (.int p2), .val (.ref b1), .val (.int vi35)] [(.int vi35)])) rfl (by rw [hml]; rfl) (argsL := [(.int vi35)]) (rest := []) (lenOf pd_0 rfl) rfl (by show 2 * 0 + _ ≤ _; exact Nat.le_of_eq rfl) (hb hby at_119) (fun _ _ => ⟨rfl, e33, (by decide : 1 + 0 ≤ _), (by decide : 16 + 0 ≤ _)⟩)
    dsimp only [Pt.U, Pt.locs, Pt.cells, Pt.slots] at X36 l36 y36 z36 st36 hQ36
    subst l36 y36 z36
    obtain ⟨rfl, N36q, e36⟩ := hQ36
    have N36 := Fr.app N33 N36q
    replace X36 : Stand p l e room_1 s m _ below meth c T36 _ 1 16 := X36
    refine own_go st36 ?_
    show WP p e below _ (T36.setTop (mkF m 122 #[.val (.int p1), .val (.int p2), .val (.ref b1), .val (.int vi35)] [(.int (f1 vi35))]))
    generalize he37 : (f1 vi35) = vi37
    show WP p e below _ (T36.setTop (mkF m 122 #[.val (.int p1), .val (.int p2), .val (.ref b1), .val (.int vi35)] [(.int vi37)]))
    refine own_go (fun t_ k => XS.iloadN X36.here hx rfl (hb hby at_122) rfl k) ?_
    show WP p e below _ (T36.setTop (mkF m 123 #[.val (.int p1), .val (.int p2), .val (.ref b1), .val (.int vi35)] [(.int vi35), (.int vi37)]))
    obtain ⟨_, _, ⟨T38, L38, k38, n38⟩, -, X38, ⟨Lc38, hQ38, l38, y38, z38⟩, st38⟩ := Jvm.LawKit.callS X36 hx (y := (⟨"com/example/covenant_atlas/covenantatlas/analysis/SpacingIsGapPinLaw", "expected", "(C)Z"⟩ : MethodName)) hown (mvT hZ (hw _ (List.mem_of_getElem? (i := 6) rfl))) (mvT hZ (hw _ (List.mem_of_getElem? (i := 7) rfl))) (mvT hZ (hw _ (List.mem_of_getElem? (i := 8) rfl))) (mvT hZ (hw _ (List.mem_of_getElem? (i := 9) rfl))) (by decide) (backOf (W := 1) (rm2 l Z a0 hw [] vi35 h33 n0) hZ (hw _ (List.mem_of_getElem? (i := 9) rfl)) (hw _ (List.mem_of_getElem? (i := 8) rfl)) (by decide) (by decide)) (g := (mkF m 123 #[.val (.int p1), .val (.int p2), .val (.ref b1), .val (.int vi35)] [(.int vi35), (.int vi37)])) rfl (by rw [hml]; rfl) (argsL := [(.int vi35)]) (rest := [(.int vi37)]) (lenOf pd_0 rfl) rfl (by show 2 * 0 + _ ≤ _; exact Nat.le_of_eq rfl) (hb hby at_123) (fun _ _ => ⟨rfl, e36, (by decide : 1 + 0 ≤ _), (by decide : 16 + 0 ≤ _)⟩)
    dsimp only [Pt.U, Pt.locs, Pt.cells, Pt.slots] at X38 l38 y38 z38 st38 hQ38
    subst l38 y38 z38
    obtain ⟨rfl, N38q, e38⟩ := hQ38
    have N38 := Fr.app N36 N38q
    replace X38 : Stand p l e room_1 s m _ below meth c T38 _ 1 16 := X38
    refine own_go st38 ?_
    show WP p e below _ (T38.setTop (mkF m 126 #[.val (.int p1), .val (.int p2), .val (.ref b1), .val (.int vi35)] [(.int (f2 vi35)), (.int vi37)]))
    generalize he39 : (f2 vi35) = vi39
    show WP p e below _ (T38.setTop (mkF m 126 #[.val (.int p1), .val (.int p2), .val (.ref b1), .val (.int vi35)] [(.int vi39), (.int vi37)]))
    have J42 : ∀ (T42 : State) (ls42 : List Loc) (X42 : Stand p l e room_1 s m #[(.int p1), (.int p2)] below meth c T42 ls42 1 16) (N42 : Fr n0 ls42) (e42 : T42.heap = h33) (z41_S0 : Int32) (hz41_S0 : z41_S0 = (if vi37 = vi39 then (1 : Int32) else (0 : Int32))), WP p e below (GG (Q0 n0) s room_1.cells room_1.slots) (T42.setTop (mkF m 134 #[.val (.int p1), .val (.int p2), .val (.ref b1), .val (.int vi35)] [(.int z41_S0)])) := by
      intro T42 ls42 X42 N42 e42 z41_S0 hz41_S0
      show WP p e below _ (T42.setTop (mkF m 134 #[.val (.int p1), .val (.int p2), .val (.ref b1), .val (.int vi35)] [(.int z41_S0)]))
      exact own_retZ X42 hx Bd.notSynchronized Bd.returns (hb hby at_134) (by rw [hz41_S0]; (repeat' split); all_goals first | exact Or.inl rfl | exact Or.inr rfl) (show Q0 n0 _ _ _ from ⟨congrArg (fun z => some (Value.int z)) (own_law_1 (p1 := p1) (p2 := p2) he35 he37 he39 hz41_S0 hc102_34), N42⟩) (by decide) (by decide)
    by_cases hc126_40 : vi37 = vi39
    · refine own_go (fun t_ k => XS.icmpNo X38.here hx rfl (hb hby at_126) rfl (teq hc126_40).2 k) ?_
      show WP p e below _ (T38.setTop (mkF m 129 #[.val (.int p1), .val (.int p2), .val (.ref b1), .val (.int vi35)] []))
      refine own_go (fun t_ k => XS.iconst X38.here hx rfl (hb hby at_129) k) ?_
      show WP p e below _ (T38.setTop (mkF m 130 #[.val (.int p1), .val (.int p2), .val (.ref b1), .val (.int vi35)] [(.int (1 : Int32))]))
      refine own_go (fun t_ k => XS.goto X38.here hx rfl (pc0 := 130) (pc' := 134) rfl (hb hby at_130) (by decide) (by decide) k) ?_
      show WP p e below _ (T38.setTop (mkF m 134 #[.val (.int p1), .val (.int p2), .val (.ref b1), .val (.int vi35)] [(.int (1 : Int32))]))
      exact J42 T38 _ X38 N38 e38 _ (by rw [if_pos hc126_40])
    · refine own_go (fun t_ k => XS.icmpYes X38.here hx rfl (pc0 := 126) (pc' := 133) rfl (hb hby at_126) rfl (feq hc126_40).2 (by decide) (by decide) k) ?_
      show WP p e below _ (T38.setTop (mkF m 133 #[.val (.int p1), .val (.int p2), .val (.ref b1), .val (.int vi35)] []))
      refine own_go (fun t_ k => XS.iconst X38.here hx rfl (hb hby at_133) k) ?_
      show WP p e below _ (T38.setTop (mkF m 134 #[.val (.int p1), .val (.int p2), .val (.ref b1), .val (.int vi35)] [(.int (0 : Int32))]))
      exact J42 T38 _ X38 N38 e38 _ (by rw [if_neg hc126_40])
  · refine own_go (fun t_ k => XS.ifNo X33.here hx rfl (hb hby at_102) rfl ((if0 _ _).trans (feq hc102_34).1) k) ?_
    show WP p e below _ (T33.setTop (mkF m 105 #[.val (.int p1), .val (.int p2), .val (.ref b1), .unset] []))
    refine own_go (fun t_ k => XS.aloadN X33.here hx rfl (hb hby at_105) rfl rfl k) ?_
    show WP p e below _ (T33.setTop (mkF m 106 #[.val (.int p1), .val (.int p2), .val (.ref b1), .unset] [(.ref b1)]))
    refine own_go (fun t_ k => XS.iloadN X33.here hx rfl (hb hby at_106) rfl k) ?_
    show WP p e below _ (T33.setTop (mkF m 107 #[.val (.int p1), .val (.int p2), .val (.ref b1), .unset] [(.int p2), (.ref b1)]))
    refine own_go (fun t_ k => XS.bipush X33.here hx rfl (hb hby at_107) k) ?_
    show WP p e below _ (T33.setTop (mkF m 109 #[.val (.int p1), .val (.int p2), .val (.ref b1), .unset] [(.int (15 : Int32)), (.int p2), (.ref b1)]))
    refine own_go (fun t_ k => XS.iand X33.here hx rfl (hb hby at_109) rfl k) ?_
    show WP p e below _ (T33.setTop (mkF m 110 #[.val (.int p1), .val (.int p2), .val (.ref b1), .unset] [(.int (p2 &&& (15 : Int32))), (.ref b1)]))
    obtain ⟨cl43, Ar43, -, S43, M43, H43, -⟩ := id (V33)
    have hin43 : ¬ ((p2 &&& (15 : Int32)) < 0 ∨ cl43.slots.size ≤ ((p2 &&& (15 : Int32))).toNatClampNeg) := inb_of S43 (own_in p2)
    obtain ⟨cv, hcv, hcv0⟩ := own_get p2
    refine own_go (fun t_ k => X33.caload hx (j := (p2 &&& (15 : Int32))) (v := (.int cv)) (by rw [e33]; exact Ar43.1) (State.isArrayOf_alike hZ.alike Ar43.2.1) Ar43.2.2 hin43 (H43.at hin43 hcv) (g := (mkF m 110 #[.val (.int p1), .val (.int p2), .val (.ref b1), .unset] [(.int (p2 &&& (15 : Int32))), (.ref b1)])) rfl rfl (hb hby at_110) _ k) ?_
    show WP p e below _ (T33.setTop (mkF m 111 #[.val (.int p1), .val (.int p2), .val (.ref b1), .unset] [(.int cv)]))
    refine own_go (fun t_ k => XS.istoreN X33.here hx rfl (hb hby at_111) rfl (l' := #[.val (.int p1), .val (.int p2), .val (.ref b1), .val (.int cv)]) rfl k) ?_
    show WP p e below _ (T33.setTop (mkF m 112 #[.val (.int p1), .val (.int p2), .val (.ref b1), .val (.int cv)] []))
    refine own_go (fun t_ k => XS.goto X33.here hx rfl (pc0 := 112) (pc' := 118) rfl (hb hby at_112) (by decide) (by decide) k) ?_
    show WP p e below _ (T33.setTop (mkF m 118 #[.val (.int p1), .val (.int p2), .val (.ref b1), .val (.int cv)] []))
    refine own_go (fun t_ k => XS.iloadN X33.here hx rfl (hb hby at_118) rfl k) ?_
    show WP p e below _ (T33.setTop (mkF m 119 #[.val (.int p1), .val (.int p2), .val (.ref b1), .val (.int cv)] [(.int cv)]))
    obtain ⟨_, _, ⟨T44, L44, k44, n44⟩, -, X44, ⟨Lc44, hQ44, l44, y44, z44⟩, st44⟩ := Jvm.LawKit.callS X33 hx (y := (⟨"com/example/covenant_atlas/covenantatlas/analysis/Spacing", "isGap", "(C)Z"⟩ : MethodName)) hown (mvT hZ (hw _ (List.mem_of_getElem? (i := 2) rfl))) (mvT hZ (hw _ (List.mem_of_getElem? (i := 3) rfl))) (mvT hZ (hw _ (List.mem_of_getElem? (i := 4) rfl))) (mvT hZ (hw _ (List.mem_of_getElem? (i := 5) rfl))) (by decide) (backOf (W := 0) (rm1 l Z a0 hw [] cv h33 n0) hZ (hw _ (List.mem_of_getElem? (i := 5) rfl)) (hw _ (List.mem_of_getElem? (i := 4) rfl)) (by decide) (by decide)) (g := (mkF m 119 #[.val (.int p1), .val (.int p2), .val (.ref b1), .val (.int cv)] [(.int cv)])) rfl (by rw [hml]; rfl) (argsL := [(.int cv)]) (rest := []) (lenOf pd_0 rfl) rfl (by show 2 * 0 + _ ≤ _; exact Nat.le_of_eq rfl) (hb hby at_119) (fun _ _ => ⟨rfl, e33, (by decide : 1 + 0 ≤ _), (by decide : 16 + 0 ≤ _)⟩)
    dsimp only [Pt.U, Pt.locs, Pt.cells, Pt.slots] at X44 l44 y44 z44 st44 hQ44
    subst l44 y44 z44
    obtain ⟨rfl, N44q, e44⟩ := hQ44
    have N44 := Fr.app N33 N44q
    replace X44 : Stand p l e room_1 s m _ below meth c T44 _ 1 16 := X44
    refine own_go st44 ?_
    show WP p e below _ (T44.setTop (mkF m 122 #[.val (.int p1), .val (.int p2), .val (.ref b1), .val (.int cv)] [(.int (f1 cv))]))
    generalize he45 : (f1 cv) = vi45
    show WP p e below _ (T44.setTop (mkF m 122 #[.val (.int p1), .val (.int p2), .val (.ref b1), .val (.int cv)] [(.int vi45)]))
    refine own_go (fun t_ k => XS.iloadN X44.here hx rfl (hb hby at_122) rfl k) ?_
    show WP p e below _ (T44.setTop (mkF m 123 #[.val (.int p1), .val (.int p2), .val (.ref b1), .val (.int cv)] [(.int cv), (.int vi45)]))
    obtain ⟨_, _, ⟨T46, L46, k46, n46⟩, -, X46, ⟨Lc46, hQ46, l46, y46, z46⟩, st46⟩ := Jvm.LawKit.callS X44 hx (y := (⟨"com/example/covenant_atlas/covenantatlas/analysis/SpacingIsGapPinLaw", "expected", "(C)Z"⟩ : MethodName)) hown (mvT hZ (hw _ (List.mem_of_getElem? (i := 6) rfl))) (mvT hZ (hw _ (List.mem_of_getElem? (i := 7) rfl))) (mvT hZ (hw _ (List.mem_of_getElem? (i := 8) rfl))) (mvT hZ (hw _ (List.mem_of_getElem? (i := 9) rfl))) (by decide) (backOf (W := 1) (rm2 l Z a0 hw [] cv h33 n0) hZ (hw _ (List.mem_of_getElem? (i := 9) rfl)) (hw _ (List.mem_of_getElem? (i := 8) rfl)) (by decide) (by decide)) (g := (mkF m 123 #[.val (.int p1), .val (.int p2), .val (.ref b1), .val (.int cv)] [(.int cv), (.int vi45)])) rfl (by rw [hml]; rfl) (argsL := [(.int cv)]) (rest := [(.int vi45)]) (lenOf pd_0 rfl) rfl (by show 2 * 0 + _ ≤ _; exact Nat.le_of_eq rfl) (hb hby at_123) (fun _ _ => ⟨rfl, e44, (by decide : 1 + 0 ≤ _), (by decide : 16 + 0 ≤ _)⟩)
    dsimp only [Pt.U, Pt.locs, Pt.cells, Pt.slots] at X46 l46 y46 z46 st46 hQ46
    subst l46 y46 z46
    obtain ⟨rfl, N46q, e46⟩ := hQ46
    have N46 := Fr.app N44 N46q
    replace X46 : Stand p l e room_1 s m _ below meth c T46 _ 1 16 := X46
    refine own_go st46 ?_
    show WP p e below _ (T46.setTop (mkF m 126 #[.val (.int p1), .val (.int p2), .val (.ref b1), .val (.int cv)] [(.int (f2 cv)), (.int vi45)]))
    generalize he47 : (f2 cv) = vi47
    show WP p e below _ (T46.setTop (mkF m 126 #[.val (.int p1), .val (.int p2), .val (.ref b1), .val (.int cv)] [(.int vi47), (.int vi45)]))
    have J50 : ∀ (T50 : State) (ls50 : List Loc) (X50 : Stand p l e room_1 s m #[(.int p1), (.int p2)] below meth c T50 ls50 1 16) (N50 : Fr n0 ls50) (e50 : T50.heap = h33) (z49_S0 : Int32) (hz49_S0 : z49_S0 = (if vi45 = vi47 then (1 : Int32) else (0 : Int32))), WP p e below (GG (Q0 n0) s room_1.cells room_1.slots) (T50.setTop (mkF m 134 #[.val (.int p1), .val (.int p2), .val (.ref b1), .val (.int cv)] [(.int z49_S0)])) := by
      intro T50 ls50 X50 N50 e50 z49_S0 hz49_S0
      show WP p e below _ (T50.setTop (mkF m 134 #[.val (.int p1), .val (.int p2), .val (.ref b1), .val (.int cv)] [(.int z49_S0)]))
      exact own_retZ X50 hx Bd.notSynchronized Bd.returns (hb hby at_134) (by rw [hz49_S0]; (repeat' split); all_goals first | exact Or.inl rfl | exact Or.inr rfl) (show Q0 n0 _ _ _ from ⟨congrArg (fun z => some (Value.int z)) (own_law_2 (p1 := p1) (p2 := p2) hcv0 he45 he47 hz49_S0 hc102_34), N50⟩) (by decide) (by decide)
    by_cases hc126_48 : vi45 = vi47
    · refine own_go (fun t_ k => XS.icmpNo X46.here hx rfl (hb hby at_126) rfl (teq hc126_48).2 k) ?_
      show WP p e below _ (T46.setTop (mkF m 129 #[.val (.int p1), .val (.int p2), .val (.ref b1), .val (.int cv)] []))
      refine own_go (fun t_ k => XS.iconst X46.here hx rfl (hb hby at_129) k) ?_
      show WP p e below _ (T46.setTop (mkF m 130 #[.val (.int p1), .val (.int p2), .val (.ref b1), .val (.int cv)] [(.int (1 : Int32))]))
      refine own_go (fun t_ k => XS.goto X46.here hx rfl (pc0 := 130) (pc' := 134) rfl (hb hby at_130) (by decide) (by decide) k) ?_
      show WP p e below _ (T46.setTop (mkF m 134 #[.val (.int p1), .val (.int p2), .val (.ref b1), .val (.int cv)] [(.int (1 : Int32))]))
      exact J50 T46 _ X46 N46 e46 _ (by rw [if_pos hc126_48])
    · refine own_go (fun t_ k => XS.icmpYes X46.here hx rfl (pc0 := 126) (pc' := 133) rfl (hb hby at_126) rfl (feq hc126_48).2 (by decide) (by decide) k) ?_
      show WP p e below _ (T46.setTop (mkF m 133 #[.val (.int p1), .val (.int p2), .val (.ref b1), .val (.int cv)] []))
      refine own_go (fun t_ k => XS.iconst X46.here hx rfl (hb hby at_133) k) ?_
      show WP p e below _ (T46.setTop (mkF m 134 #[.val (.int p1), .val (.int p2), .val (.ref b1), .val (.int cv)] [(.int (0 : Int32))]))
      exact J50 T46 _ X46 N46 e46 _ (by rw [if_neg hc126_48])
set_option maxRecDepth 65536 in
set_option maxHeartbeats 40000000 in
theorem comes_1 {Post : Tables → Env → Array Value → State → Outcome → State → Prop} (hpost : ∀ tb e args s v u, (limb_1_1.after args s (.returned v) u = true ∧ limb_1_2.after args s (.returned v) u = true ∧ True) → FrameEnd s (.returned v) u (Jvm.fieldLocs frame_1_writes args s ++ Jvm.arrayLocs frame_1_arrays args s ++ Jvm.staticLocs frame_1_statics s) 16 128 → Post tb e args s (.returned v) u) :
    ArmFor flags0 classFile x code maxLocals ret World_1 tables_1 room_1 Calls_1 rest_1 Pre_1 Post := by
  intro l hfl _ _ p e ha hc hk s m args below hf hA hF happ hP
  obtain ⟨hcalls, hrest, hpre⟩ := hP
  obtain ⟨-, -, -, hnamed, -, -, -, hat⟩ := (Spec.applies_iff hf).mp happ
  obtain ⟨hg, hn⟩ := and_e (Cond.before_iff.mp (show (Jvm.Cond.and given_1 narrow_1).before args s = true from hpre))
  obtain ⟨g1, g2⟩ := and_e hg
  obtain ⟨g3, g4⟩ := and_e g2
  obtain ⟨w0, w1, rfl⟩ : ∃ w0 w1 : Value, args = #[w0, w1] := by
    have hs : args.size = 2 := by simpa [Cond.value, given_1] using g1
    obtain ⟨L⟩ := args
    match L, hs with
    | [w0, w1], _ => exact ⟨w0, w1, rfl⟩
  have hw := fun d (hd : d ∈ tables_1) => atoms_spec (ws := Jvm.Cond.code x code maxLocals ret :: tables_1) hat d (List.mem_cons_of_mem _ hd)
  have hfit : Fit s := fun {y c} hc i hi => by
    obtain ⟨ha, rfl⟩ := Array.getElem?_eq_some_iff.mp hc
    have q := List.all_eq_true.mp ((Array.all_eq_true_iff_forall_mem.mp hF) _ (Array.getElem_mem ha)) i (List.mem_range.mpr hi)
    simpa [Array.getElem?_eq_getElem hi] using q
  obtain ⟨i0, ei0⟩ := is_v g3
  obtain rfl : w0 = (.int i0) := Option.some.inj ei0
  obtain ⟨i1, ei1⟩ := is_v g4
  obtain rfl : w1 = (.int i1) := Option.some.inj ei1
  obtain ⟨n, o, h1, h2, h3, _, L, rfl, ⟨rfl, N⟩, hq⟩ := rm0 l s _ hw tables_1 i0 i1 s.heap s.heap.size (Nat.le_refl _) p e ha hc hk s m _ below hf ((Spec.applies_iff_loose hf).mp happ).1 ⟨rfl, State.Warmed39.refl s, rfl⟩ trivial
  refine ⟨n, _, h1, h2, h3, hpost _ _ _ _ _ _ ⟨Cond.after_iff.mpr rfl, Cond.after_iff.mpr (eq_i res_at (Term.int_eval (1)) rfl), trivial⟩ ⟨hq.1, hq.2.1, (hq.2.2.sift fun y hy => Or.inr (N y hy)).mono (by decide) (by decide)⟩⟩
theorem main_1_1 : Claimed_1_1 := comes_1 fun _ _ _ _ _ _ h hF => ⟨h.1, hF⟩
theorem main_1_2 : Claimed_1_2 := comes_1 fun _ _ _ _ _ _ h hF => ⟨h.2.1, hF⟩
end Jvm.Pilot.@@N@@
namespace Jvm.Pilot.@@N@@
open Jvm Jvm.ClassFile Sem Op Lib Jvm.Free Jvm.Stand Jvm.Pilot.@@N@@.Jvm.D
/-! MADE BY PROGRAM (witnessworld.py) out of the Statement's table words and the real class files: 11 classes; the members and pool entries that the words name. The judged class is class 1, her method 2. -/
namespace start1
open Jvm.ClassFile
def u (s : String) : CpInfo := .utf8 (stringToUtf16 s)
/-- a pool by its gaps: so many unusable entries, then the entry; so many at the end -/
def gap : Nat → List CpInfo → List CpInfo
  | 0, r => r
  | n + 1, r => .unusable :: gap n r
def poolList (es : List (Nat × CpInfo)) (last : Nat) : List CpInfo := es.foldr (fun e r => gap e.1 (e.2 :: r)) (gap last [])
def pool (es : List (Nat × CpInfo)) (last : Nat) : Array CpInfo := ⟨poolList es last⟩
def fileOf (pool : Array CpInfo) (this : Nat) (attrs : Array Attribute := #[]) (ms : Array MethodInfo := #[]) (fl : Nat := 33) (sup : Nat := 0) (ifs : Array Nat := #[]) (fds : Array FieldInfo := #[]) : ClassFile where
  minorVersion := 0
  majorVersion := 65
  constantPool := pool
  accessFlags := fl
  thisClass := this
  superClass := sup
  interfaces := ifs
  fields := fds
  methods := ms
  attributes := attrs
def plain (name : String) (sup : Option ClassId) : Class where
  name := name
  kind := .ordinary
  loader := none
  accessFlags := 33
  super := sup
  interfaces := #[]
  cf := none
  fields := #[]
  methods := #[]
  instanceTypes := #[]
  staticTypes := #[]
  resolved := #[]
  callSites := []
  init := .initialized
  statics := none
  mirror := none

def pool0 : Array CpInfo := pool [(5, u "<init>"), (0, u "()V"), (1, .class_ 10), (1, u "java/lang/Object")] 113

def k0m0 : Method := { name := "<init>", desc := "()V", sig := { parameters := [], returnType := none }, accessFlags := 1, code := none }
/-- java/lang/Object -/
def k0 : Class := { plain "java/lang/Object" none with
  accessFlags := 33
  interfaces := #[]
  cf := some (fileOf pool0 8 #[] #[{ accessFlags := 1, nameIndex := 5, descriptorIndex := 6, attributes := #[] }] 33 0 #[] #[])
  fields := #[]
  methods := #[k0m0]
  instanceTypes := #[]
  staticTypes := #[]
  resolved := Array.replicate 124 none
  statics := none }

def pool1 : Array CpInfo := pool [(2, .class_ 4), (1, u "java/lang/Object"), (0, u "<init>"), (0, u "()V"), (0, .long 4294977024), (1, .integer 65535), (0, .methodref 11 12), (0, .class_ 13), (0, .nameAndType 14 15), (0, u "com/example/covenant_atlas/covenantatlas/analysis/Spacing"), (0, u "isGap"), (0, u "(C)Z"), (0, .methodref 17 18), (0, .class_ 19), (0, .nameAndType 20 15), (0, u "com/example/covenant_atlas/covenantatlas/analysis/SpacingIsGapPinLaw"), (0, u "expected"), (3, u "law"), (0, u "(II)Z")] 4

def k1m0 : Method := { name := "<init>", desc := "()V", sig := { parameters := [], returnType := none }, accessFlags := 2, code := none }
def k1c1 : Code := { maxStack := 4, maxLocals := 3, code := method_2_code, exceptionTable := #[], attributes := #[] }
def k1m1 : Method := { name := "expected", desc := "(C)Z", sig := { parameters := [.char], returnType := some .boolean }, accessFlags := 10, code := some k1c1 }
def k1c2 : Code := { maxStack := 4, maxLocals := 4, code := code, exceptionTable := #[], attributes := #[] }
def k1m2 : Method := { name := "law", desc := "(II)Z", sig := { parameters := [.int, .int], returnType := some .boolean }, accessFlags := 9, code := some k1c2 }
/-- com/example/covenant_atlas/covenantatlas/analysis/SpacingIsGapPinLaw -/
def k1 : Class := { plain "com/example/covenant_atlas/covenantatlas/analysis/SpacingIsGapPinLaw" (some 0) with
  accessFlags := 49
  interfaces := #[]
  cf := some (fileOf pool1 17 #[] #[{ accessFlags := 2, nameIndex := 5, descriptorIndex := 6, attributes := #[] }, { accessFlags := 10, nameIndex := 20, descriptorIndex := 15, attributes := #[] }, { accessFlags := 9, nameIndex := 24, descriptorIndex := 25, attributes := #[] }] 49 2 #[] #[])
  fields := #[]
  methods := #[k1m0, k1m1, k1m2]
  instanceTypes := #[]
  staticTypes := #[]
  resolved := Array.replicate 30 none
  statics := none }

def pool2 : Array CpInfo := pool [(1, .class_ 2), (0, u "com/example/covenant_atlas/covenantatlas/analysis/Spacing"), (1, .class_ 6), (1, u "java/lang/Object"), (0, u "<init>"), (0, u "()V"), (25, u "isGap"), (0, u "(C)Z"), (19, u "NO_BREAK_SPACE"), (0, u "C"), (2, u "TAB_STOP_CHARACTERS"), (0, u "Ljava/lang/String;"), (2, u "GAP_CHARACTERS"), (2, u "GAP"), (2, u "NOT_GAP"), (2, u "TAB_STOP")] 14

def k2m0 : Method := { name := "<init>", desc := "()V", sig := { parameters := [], returnType := none }, accessFlags := 2, code := none }
def k2c1 : Code := { maxStack := 2, maxLocals := 1, code := prog_10_method_11_code, exceptionTable := #[], attributes := #[] }
def k2m1 : Method := { name := "isGap", desc := "(C)Z", sig := { parameters := [.char], returnType := some .boolean }, accessFlags := 9, code := some k2c1 }
/-- com/example/covenant_atlas/covenantatlas/analysis/Spacing -/
def k2 : Class := { plain "com/example/covenant_atlas/covenantatlas/analysis/Spacing" (some 0) with
  accessFlags := 33
  interfaces := #[]
  cf := some (fileOf pool2 1 #[] #[{ accessFlags := 2, nameIndex := 7, descriptorIndex := 8, attributes := #[] }, { accessFlags := 9, nameIndex := 34, descriptorIndex := 35, attributes := #[] }] 33 4 #[] #[{ accessFlags := 26, nameIndex := 55, descriptorIndex := 56, attributes := #[] }, { accessFlags := 26, nameIndex := 59, descriptorIndex := 60, attributes := #[] }, { accessFlags := 26, nameIndex := 63, descriptorIndex := 60, attributes := #[] }, { accessFlags := 24, nameIndex := 66, descriptorIndex := 60, attributes := #[] }, { accessFlags := 24, nameIndex := 69, descriptorIndex := 60, attributes := #[] }, { accessFlags := 24, nameIndex := 72, descriptorIndex := 60, attributes := #[] }])
  fields := #[{ name := "NO_BREAK_SPACE", type := .char, accessFlags := 26, slot := 0, constantValue := 0 }, { name := "TAB_STOP_CHARACTERS", type := (.object "java/lang/String"), accessFlags := 26, slot := 1, constantValue := 0 }, { name := "GAP_CHARACTERS", type := (.object "java/lang/String"), accessFlags := 26, slot := 2, constantValue := 0 }, { name := "GAP", type := (.object "java/lang/String"), accessFlags := 24, slot := 3, constantValue := 0 }, { name := "NOT_GAP", type := (.object "java/lang/String"), accessFlags := 24, slot := 4, constantValue := 0 }, { name := "TAB_STOP", type := (.object "java/lang/String"), accessFlags := 24, slot := 5, constantValue := 0 }]
  methods := #[k2m0, k2m1]
  instanceTypes := #[]
  staticTypes := #[.char, (.object "java/lang/String"), (.object "java/lang/String"), (.object "java/lang/String"), (.object "java/lang/String"), (.object "java/lang/String")]
  resolved := Array.replicate 87 none
  statics := none }

def pool3 : Array CpInfo := pool [(1, u "java/lang/Cloneable"), (0, .class_ 1), (0, u "java/lang/Object"), (0, .class_ 3)] 3

/-- java/lang/Cloneable -/
def k3 : Class := { plain "java/lang/Cloneable" (some 0) with
  accessFlags := 1537
  interfaces := #[]
  cf := some (fileOf pool3 2 #[] #[] 1537 4 #[] #[])
  fields := #[]
  methods := #[]
  instanceTypes := #[]
  staticTypes := #[]
  resolved := Array.replicate 8 none
  statics := none }

def pool4 : Array CpInfo := pool [(1, u "java/io/Serializable"), (0, .class_ 1), (0, u "java/lang/Object"), (0, .class_ 3)] 3

/-- java/io/Serializable -/
def k4 : Class := { plain "java/io/Serializable" (some 0) with
  accessFlags := 1537
  interfaces := #[]
  cf := some (fileOf pool4 2 #[] #[] 1537 4 #[] #[])
  fields := #[]
  methods := #[]
  instanceTypes := #[]
  staticTypes := #[]
  resolved := Array.replicate 8 none
  statics := none }

/-- the primitive byte -/
def k5 : Class := { plain "byte" none with kind := .primitive 'B', accessFlags := 0x411 }
/-- [B -/
def k6 : Class := { plain "[B" (some 0) with kind := .array 5 .byte, interfaces := #[3, 4], accessFlags := 1041 }

/-- the primitive char -/
def k7 : Class := { plain "char" none with kind := .primitive 'C', accessFlags := 0x411 }
/-- [C -/
def k8 : Class := { plain "[C" (some 0) with kind := .array 7 .char, interfaces := #[3, 4], accessFlags := 1041 }

/-- the primitive int -/
def k9 : Class := { plain "int" none with kind := .primitive 'I', accessFlags := 0x411 }
/-- [I -/
def k10 : Class := { plain "[I" (some 0) with kind := .array 9 .int, interfaces := #[3, 4], accessFlags := 1041 }

def heap : Heap := #[]
def classes : Array Class := #[k0, k1, k2, k3, k4, k5, k6, k7, k8, k9, k10]
def interned : List (Array UInt16 × Addr) := []
def slotsUsed : Nat := 0
def theMethod : MethodId := ⟨1, 2⟩
def args0 : Array Value := #[.int 5, .int 6]
def aboutOver (below : List Frame) : State where
  vm := { classes := classes, interned := interned.toArray }
  heap := heap
  slotsUsed := slotsUsed
  threads := #[{ frames := .invoking theMethod args0 :: below }]
def below0 : List Frame := [.native { method := ⟨0, 0⟩, args := #[] }]
def about1 : State := aboutOver below0
def p0 : Program := .bare "" "" ""
def e0 : Env := launch0.env 0 0 0
theorem w_frames : about1.frames = Frame.invoking theMethod args0 :: below0 := rfl
set_option maxRecDepth 65536 in
theorem w_args : argsFit about1.vm theMethod args0 = true := by decide +kernel
set_option maxRecDepth 65536 in
theorem w_heap : heapFits about1 = true := by decide +kernel
set_option maxRecDepth 65536 in
theorem w_runnable : about1.curStatus? = some .runnable := by decide +kernel
set_option maxRecDepth 65536 in
theorem w_alone : about1.alone = true := by decide +kernel
set_option maxRecDepth 65536 in
theorem w_named : about1.methodNamed? x = some theMethod := by decide +kernel
set_option maxRecDepth 65536 in
theorem w_hears : about1.hears theMethod below0 = true := by decide +kernel
set_option maxRecDepth 65536 in
theorem w_ripe : about1.ripe theMethod args0 below0 = true := by decide +kernel
theorem w_running : about1.status = .running := rfl
set_option maxRecDepth 65536 in
theorem w_room : about1.hasRoom e0.platform room_1 = true :=
  launch0.hasRoom_least _ room_1 (by decide +kernel) (by decide +kernel) (by decide +kernel) (by decide +kernel) (by decide +kernel) (by decide +kernel)
theorem allAtoms_all (ts : List Jvm.Cond) (a : Array Jvm.Value) (st : Jvm.State) : (allAtoms ts).before a st = ts.all (fun c => c.before a st) := by
  induction ts with
  | nil => rfl
  | cons c t ih =>
    show (Jvm.Cond.and c (allAtoms t)).before a st = _
    rw [Jvm.Cond.before_and, ih, List.all_cons]
def words1 : List Jvm.Cond := Jvm.Cond.code x code maxLocals ret :: tables_1
/-- a 'code' word, met by the world's own term for the bytes: nothing is compared byte by byte -/
theorem code_word {y : MethodName} {bytes : ByteArray} {mx : Nat} {rt : Option FieldType} {a : Array Value} {s : State} {m : MethodId} {meth : Method} {c : Code} (h1 : s.methodNamed? y = some m) (h2 : s.vm.method? m = some meth) (h3 : meth.code = some c) (h4 : c.code = bytes)
    (h5 : (c.maxLocals == mx && c.exceptionTable.isEmpty && decide (c.maxStack ≤ mostOperands) && decide (meth.sig.returnType = rt) && !meth.locks && decide (parseMethodDescriptor y.desc = some meth.sig)) = true) : (Jvm.Cond.code y bytes mx rt).before a s = true := by
  simp only [Bool.and_eq_true, beq_iff_eq, Bool.not_eq_true', decide_eq_true_eq] at h5
  obtain ⟨⟨⟨⟨⟨g1, g2⟩, g3⟩, g4⟩, g5⟩, g6⟩ := h5
  simp [Cond.before, Cond.holds, Cond.value, h1, h2, h3, h4, g1, g2, g3, g4, g5, g6]
def isCode : Jvm.Cond → Bool
  | .code _ _ _ _ => true
  | _ => false
theorem all_split {L : List Jvm.Cond} {P : Jvm.Cond → Bool} (h1 : L.all (fun c => isCode c || P c) = true) (h2 : ∀ c ∈ L.filter isCode, P c = true) : L.all P = true := by
  refine List.all_eq_true.mpr fun c hc => ?_
  have h := List.all_eq_true.mp h1 c hc
  rcases Bool.eq_false_or_eq_true (isCode c) with hi | hi
  · exact h2 c (List.mem_filter.mpr ⟨hc, hi⟩)
  · simpa [hi] using h
set_option maxRecDepth 65536 in
theorem w_c0 : (Jvm.Cond.code x code maxLocals ret).before args0 about1 = true := code_word (m := ⟨1, 2⟩) (meth := k1m2) (c := k1c2) (by decide +kernel) rfl rfl rfl (by decide +kernel)
set_option maxRecDepth 65536 in
theorem w_c1 : (Jvm.Cond.code ({ cls := "com/example/covenant_atlas/covenantatlas/analysis/Spacing", name := "isGap", desc := "(C)Z" } : Jvm.MethodName) prog_10_method_11_code (1 : Nat) (Option.some Jvm.ClassFile.FieldType.boolean)).before args0 about1 = true := code_word (m := ⟨2, 1⟩) (meth := k2m1) (c := k2c1) (by decide +kernel) rfl rfl rfl (by decide +kernel)
set_option maxRecDepth 65536 in
theorem w_c2 : (Jvm.Cond.code ({ cls := "com/example/covenant_atlas/covenantatlas/analysis/SpacingIsGapPinLaw", name := "expected", desc := "(C)Z" } : Jvm.MethodName) method_2_code (3 : Nat) (Option.some Jvm.ClassFile.FieldType.boolean)).before args0 about1 = true := code_word (m := ⟨1, 1⟩) (meth := k1m1) (c := k1c1) (by decide +kernel) rfl rfl rfl (by decide +kernel)
def codes1 : List Jvm.Cond := [Jvm.Cond.code x code maxLocals ret, Jvm.Cond.code ({ cls := "com/example/covenant_atlas/covenantatlas/analysis/Spacing", name := "isGap", desc := "(C)Z" } : Jvm.MethodName) prog_10_method_11_code (1 : Nat) (Option.some Jvm.ClassFile.FieldType.boolean), Jvm.Cond.code ({ cls := "com/example/covenant_atlas/covenantatlas/analysis/SpacingIsGapPinLaw", name := "expected", desc := "(C)Z" } : Jvm.MethodName) method_2_code (3 : Nat) (Option.some Jvm.ClassFile.FieldType.boolean)]
set_option maxRecDepth 65536 in
theorem codes_eq : words1.filter isCode = codes1 := rfl
theorem w_codes : ∀ c ∈ words1.filter isCode, c.before args0 about1 = true := by
  rw [codes_eq]
  intro c hc
  simp only [codes1, List.mem_cons, List.not_mem_nil, or_false] at hc
  rcases hc with rfl | rfl | rfl
  · exact w_c0
  · exact w_c1
  · exact w_c2
set_option maxRecDepth 65536 in
theorem w_t1 : words1.all (fun c => isCode c || c.before args0 about1) = true := by decide +kernel
theorem w_tables : (allAtoms (Jvm.Cond.code x code maxLocals ret :: tables_1)).before args0 about1 = true := by
  rw [allAtoms_all]
  show words1.all (fun c => c.before args0 about1) = true
  refine all_split ?_ w_codes
  rw [w_t1]
set_option maxRecDepth 65536 in
theorem w_case : (Jvm.Cond.and given_1 narrow_1).before args0 about1 = true := by decide +kernel
theorem w_applies : (headSpec (Jvm.Cond.code x code maxLocals ret :: tables_1) room_1).applies x e0.platform about1 = true :=
  (Spec.applies_iff w_frames).mpr ⟨w_running, w_runnable, w_alone, w_named, w_hears, w_ripe, w_room, w_tables⟩
theorem atStart : AtStart classFile x code maxLocals ret World_1 tables_1 room_1 Calls_1 rest_1 Pre_1 launch0 p0 e0 about1 theMethod args0 below0 :=
  ⟨lists_1, trivial, launch0.admits_env _ _ _, launch0.least_env, fairChoices_fair.cas, fairChoices_fair.clock, w_frames, w_args, w_heap, w_applies, trivial, trivial, w_case⟩
end start1
theorem witness_1 : WitnessClaimed_1 := ⟨start1.p0, start1.e0, start1.about1, start1.theMethod, start1.args0, start1.below0, start1.atStart⟩
end Jvm.Pilot.@@N@@
