import JvmDerived
import JvmDerived.Pilot.@@N@@Statement
import JvmDerived.Pilot.@@N@@Code
set_option linter.unusedVariables false
set_option linter.unusedSimpArgs false
namespace Jvm.Pilot.@@N@@
open Jvm Jvm.ClassFile Sem Op Lib Jvm.Free Jvm.Stand Jvm.LawKit Jvm.RoadKit Bundle Jvm.Pilot.@@N@@.Jvm.D
/-! The end of a walk, as a goal: from U the run ends, and G holds of the end. -/
def WP (p : Program) (e : Env) (below : List Frame) (G : State → Outcome → Prop) (U : State) : Prop :=
  ∃ s₂ o, Steps p.tables e below U s₂ ∧ s₂.status = .running ∧ Ended s₂ below o ∧ G s₂ o
def GG (Q : Option Value → Heap → List Loc → Prop) (s : State) (k n : Nat) : State → Outcome → Prop :=
  fun t o => ∃ v L, o = .returned v ∧ Q v t.heap L ∧ FrameEnd s o t L k n
theorem own_go {p : Program} {e : Env} {below : List Frame} {G : State → Outcome → Prop} {U V : State} (h : ∀ t, Steps p.tables e below V t → Steps p.tables e below U t) (w : WP p e below G V) : WP p e below G U := by
  obtain ⟨t, o, h1, h2⟩ := w
  exact ⟨t, o, h _ h1, h2⟩
/-- what a body that writes nothing leaves -/
def PQ (h0 : Heap) (n0 : Nat) (w : Value) (v : Option Value) (h : Heap) (L : List Loc) : Prop := v = some w ∧ Fr n0 L ∧ h = h0
/-- what the law leaves -/
def Q0 (n0 : Nat) (v : Option Value) (h : Heap) (L : List Loc) : Prop := v = some (.int 1) ∧ Fr n0 L
section Own
variable {p : Program} {l : Launch} {e : Env} {R : Room} {s : State} {m : MethodId} {args : Array Value} {below : List Frame} {meth : Method} {c : Code} {T : State} {locs : List Loc} {cells slots : Nat}
theorem own_mono (X : Stand p l e R s m args below meth c T locs cells slots) {k n : Nat} (h1 : cells ≤ k) (h2 : slots ≤ n) : Stand p l e R s m args below meth c T locs k n :=
  ⟨X.admits, X.cas, X.clock, X.frames, X.room, X.hears, X.method, X.code, X.here, X.tail, X.warmed, X.limits, X.bytes, X.same.mono h1 h2⟩
theorem own_retI (X : Stand p l e R s m args below meth c T locs cells slots) (hx : p.tables.exec = Jvm.exec) (hnl : meth.locks = false) (hret : meth.sig.returnType = some .int) {pc : Nat} {Ls : Array Slot} {z : Int32} {rest : List Value} (hd : decode c.code pc = .ok (.ireturn, 1)) {Q : Option Value → Heap → List Loc → Prop} {k n : Nat}
    (hq : Q (some (.int z)) T.heap locs) (hc : cells ≤ k) (hs : slots ≤ n) : WP p e below (GG Q s k n) (T.setTop (mkF m pc Ls (.int z :: rest))) := by
  obtain ⟨fs, hr, hrun, hended, hW, hsame⟩ := X.leave (v := some (.int z)) (fun h => by rw [hret] at h; cases h) hnl
  exact ⟨_, _, retOut X hx hret rfl (Or.inl ⟨rfl, Or.inl rfl, z, rfl⟩) hd hr, hrun, hended, _, _, rfl, hq, ⟨_, rfl⟩, hW, hsame.mono hc hs⟩
theorem own_retN (X : Stand p l e R s m args below meth c T locs cells slots) (hx : p.tables.exec = Jvm.exec) (hnl : meth.locks = false) {t : FieldType} (hret : meth.sig.returnType = some t) (ht : t = .boolean ∨ t = .byte ∨ t = .char ∨ t = .short) {pc : Nat} {Ls : Array Slot} {z : Int32} {rest : List Value} (hd : decode c.code pc = .ok (.ireturn, 1)) {Q : Option Value → Heap → List Loc → Prop} {k n : Nat}
    (hq : Q (some (.int (nar t z))) T.heap locs) (hc : cells ≤ k) (hs : slots ≤ n) : WP p e below (GG Q s k n) (T.setTop (mkF m pc Ls (.int z :: rest))) := by
  obtain ⟨fs, hr, hrun, hended, hW, hsame⟩ := X.leave (v := some (.int (nar t z))) (fun h => by rw [hret] at h; cases h) hnl
  exact ⟨_, _, retN X hx hret ht hd hr, hrun, hended, _, _, rfl, hq, ⟨_, rfl⟩, hW, hsame.mono hc hs⟩
theorem own_retZ (X : Stand p l e R s m args below meth c T locs cells slots) (hx : p.tables.exec = Jvm.exec) (hnl : meth.locks = false) (hret : meth.sig.returnType = some .boolean) {pc : Nat} {Ls : Array Slot} {z : Int32} {rest : List Value} (hd : decode c.code pc = .ok (.ireturn, 1)) (hz : z = 0 ∨ z = 1) {Q : Option Value → Heap → List Loc → Prop} {k n : Nat}
    (hq : Q (some (.int z)) T.heap locs) (hc : cells ≤ k) (hs : slots ≤ n) : WP p e below (GG Q s k n) (T.setTop (mkF m pc Ls (.int z :: rest))) := by
  have hb : nar .boolean z = z := by rcases hz with rfl | rfl <;> rfl
  exact own_retN X hx hnl hret (Or.inl rfl) hd (by rw [hb]; exact hq) hc hs
theorem own_retC (X : Stand p l e R s m args below meth c T locs cells slots) (hx : p.tables.exec = Jvm.exec) (hnl : meth.locks = false) (hret : meth.sig.returnType = some .char) {pc : Nat} {Ls : Array Slot} {z : Int32} {rest : List Value} (hd : decode c.code pc = .ok (.ireturn, 1)) {Q : Option Value → Heap → List Loc → Prop} {k n : Nat}
    (hq : Q (some (.int z.toUInt32.toUInt16.toUInt32.toInt32)) T.heap locs) (hc : cells ≤ k) (hs : slots ≤ n) : WP p e below (GG Q s k n) (T.setTop (mkF m pc Ls (.int z :: rest))) :=
  own_retN X hx hnl hret (Or.inr (Or.inr (Or.inl rfl))) hd hq hc hs
theorem own_retB (X : Stand p l e R s m args below meth c T locs cells slots) (hx : p.tables.exec = Jvm.exec) (hnl : meth.locks = false) (hret : meth.sig.returnType = some .byte) {pc : Nat} {Ls : Array Slot} {z : Int32} {rest : List Value} (hd : decode c.code pc = .ok (.ireturn, 1)) {Q : Option Value → Heap → List Loc → Prop} {k n : Nat}
    (hq : Q (some (.int z.toInt8.toInt32)) T.heap locs) (hc : cells ≤ k) (hs : slots ≤ n) : WP p e below (GG Q s k n) (T.setTop (mkF m pc Ls (.int z :: rest))) :=
  own_retN X hx hnl hret (Or.inr (Or.inl rfl)) hd hq hc hs
theorem own_retJ (X : Stand p l e R s m args below meth c T locs cells slots) (hx : p.tables.exec = Jvm.exec) (hnl : meth.locks = false) (hret : meth.sig.returnType = some .long) {pc : Nat} {Ls : Array Slot} {z : Int64} {rest : List Value} (hd : decode c.code pc = .ok (.lreturn, 1)) {Q : Option Value → Heap → List Loc → Prop} {k n : Nat}
    (hq : Q (some (.long z)) T.heap locs) (hc : cells ≤ k) (hs : slots ≤ n) : WP p e below (GG Q s k n) (T.setTop (mkF m pc Ls (.long z :: rest))) := by
  obtain ⟨fs, hr, hrun, hended, hW, hsame⟩ := X.leave (v := some (.long z)) (fun h => by rw [hret] at h; cases h) hnl
  exact ⟨_, _, retOut X hx hret rfl (Or.inr (Or.inl ⟨rfl, rfl, z, rfl⟩)) hd hr, hrun, hended, _, _, rfl, hq, ⟨_, rfl⟩, hW, hsame.mono hc hs⟩
theorem own_retA (X : Stand p l e R s m args below meth c T locs cells slots) (hx : p.tables.exec = Jvm.exec) (hnl : meth.locks = false) {t : FieldType} (hret : meth.sig.returnType = some t) (ht : t.isReference = true) {pc : Nat} {Ls : Array Slot} {w : Value} (hw : w.isRef = true) {rest : List Value} (hd : decode c.code pc = .ok (.areturn, 1)) {Q : Option Value → Heap → List Loc → Prop} {k n : Nat}
    (hq : Q (some w) T.heap locs) (hc : cells ≤ k) (hs : slots ≤ n) : WP p e below (GG Q s k n) (T.setTop (mkF m pc Ls (w :: rest))) := by
  obtain ⟨fs, hr, hrun, hended, hW, hsame⟩ := X.leave (v := some w) (fun h => by rw [hret] at h; cases h) hnl
  have hn : narrow t w = w := by cases t <;> first | rfl | (simp [FieldType.isReference] at ht)
  exact ⟨_, _, retOut X hx hret hn (Or.inr (Or.inr (Or.inr (Or.inr ⟨rfl, ht, hw⟩)))) hd hr, hrun, hended, _, _, rfl, hq, ⟨_, rfl⟩, hW, hsame.mono hc hs⟩
theorem own_ret0 (X : Stand p l e R s m args below meth c T locs cells slots) (hx : p.tables.exec = Jvm.exec) (hnl : meth.locks = false) (hret : meth.sig.returnType = none) {pc : Nat} {Ls : Array Slot} (hd : decode c.code pc = .ok (.return_, 1)) {Q : Option Value → Heap → List Loc → Prop} {k n : Nat}
    (hq : Q none T.heap locs) (hc : cells ≤ k) (hs : slots ≤ n) : WP p e below (GG Q s k n) (T.setTop (mkF m pc Ls [])) := by
  obtain ⟨fs, hr, hrun, hended, hW, hsame⟩ := X.leave (v := none) (fun _ => rfl) hnl
  exact ⟨_, _, X.returnOut hx hret hd hr, hrun, hended, _, _, rfl, hq, ⟨_, rfl⟩, hW, hsame.mono hc hs⟩
end Own

def f1_last (q2 : Int64) (u_last : Int64) (u_doubtFrom : Int32) : Int64 := q2
def f1_doubtFrom (q2 : Int64) (u_last : Int64) (u_doubtFrom : Int32) : Int32 := (-1 : Int32)
def Q_rm1 (Z : State) (a1 : Addr) (q2 : Int64) (u_last : Int64) (u_doubtFrom : Int32) (h0 : Heap) (n0 : Nat) (v : Option Value) (h : Heap) (L : List Loc) : Prop := v = none ∧ Fr n0 L ∧ Keep h0 h [a1] ∧ Exa Z h a1 "com/example/holdfast/holdfast/PastDamage" ∧ Fld Z h a1 "com/example/holdfast/holdfast/PastDamage" "last" "J" (.long (f1_last q2 u_last u_doubtFrom)) ∧ Fld Z h a1 "com/example/holdfast/holdfast/PastDamage" "doubtFrom" "I" (.int (f1_doubtFrom q2 u_last u_doubtFrom))
theorem d1_0 : decode prog_35_method_1_code 0 = .ok (.aload_n 0, 1) := by decide +kernel
theorem d1_1 : decode prog_35_method_1_code 1 = .ok (.invokespecial 1, 3) := by decide +kernel
theorem d1_4 : decode prog_35_method_1_code 4 = .ok (.aload_n 0, 1) := by decide +kernel
theorem d1_5 : decode prog_35_method_1_code 5 = .ok (.iconst (-1), 1) := by decide +kernel
theorem d1_6 : decode prog_35_method_1_code 6 = .ok (.putfield 7, 3) := by decide +kernel
theorem d1_9 : decode prog_35_method_1_code 9 = .ok (.aload_n 0, 1) := by decide +kernel
theorem d1_10 : decode prog_35_method_1_code 10 = .ok (.lload_n 1, 1) := by decide +kernel
theorem d1_11 : decode prog_35_method_1_code 11 = .ok (.putfield 13, 3) := by decide +kernel
theorem d1_14 : decode prog_35_method_1_code 14 = .ok (.return_, 1) := by decide +kernel
theorem pn_0 : plainName "com/example/holdfast/holdfast/PastDamage" = true := by first | (simp [plainName, overriddenIn]; done) | decide +kernel
theorem ef_rm1 (m : MethodId) (x0 : Addr) (x1 : Int64) : entryFrame m #[(.ref x0), (.long x1)] 3 = mkF m 0 #[.val (.ref x0), .val (.long x1), .second] [] := by first | (simp [entryFrame, mkF, argsToLocals, Value.category]; done) | rfl
set_option maxRecDepth 65536 in
set_option maxHeartbeats 40000000 in
theorem rm1 (l : Launch) (Z : State) (a0 : Array Value) (hw : ∀ d ∈ tables_1, d.before a0 Z = true) (ws : List Jvm.Cond) (a1 : Addr) (q2 : Int64) (u_last : Int64) (u_doubtFrom : Int32) (h0 : Heap) (n0 : Nat) (E_a : Exa Z h0 a1 "com/example/holdfast/holdfast/PastDamage") (g_a : n0 ≤ a1) (F_u_last : Fld Z h0 a1 "com/example/holdfast/holdfast/PastDamage" "last" "J" (.long u_last)) (F_u_doubtFrom : Fld Z h0 a1 "com/example/holdfast/holdfast/PastDamage" "doubtFrom" "I" (.int u_doubtFrom)) :
    MetFree l (⟨"com/example/holdfast/holdfast/PastDamage", "<init>", "(J)V"⟩ : MethodName) (head1 (Jvm.Cond.code (⟨"com/example/holdfast/holdfast/PastDamage", "<init>", "(J)V"⟩ : MethodName) prog_35_method_1_code 3 none :: ws) ({ frames := 1, cells := 0, slots := 0, locals := 12 } : Room)) (fun a U => a = #[(.ref a1), (.long q2)] ∧ Z.Warmed39 U.vm ∧ U.heap = h0) (fun _ _ _ _ _ => True) (fun _ U o U' => ∃ v L, o = .returned v ∧ (Q_rm1 Z a1 q2 u_last u_doubtFrom h0 n0) v U'.heap L ∧ FrameEnd U o U' L ({ frames := 1, cells := 0, slots := 0, locals := 12 } : Room).cells ({ frames := 1, cells := 0, slots := 0, locals := 12 } : Room).slots) := by
  refine MetFree.of_bodySF (plainFor_of_name pn_0) hisR ?_
  intro p e s m args below meth c s₁ Bd hml0 hP hK
  obtain ⟨rfl, hZ, hh⟩ := hP
  have hx := Bd.exec
  have hby := Bd.bytes
  have hml : c.maxLocals = 3 := hml0
  have hown : s.vm.findClass "com/example/holdfast/holdfast/PastDamage" = some m.cls := findClass_of_methodNamed Bd.named
  have hnm := (name_of_methodNamed Bd.named Bd.method).1
  have X0 : Stand p l e ({ frames := 1, cells := 0, slots := 0, locals := 12 } : Room) s m #[(.ref a1), (.long q2)] below meth c s₁ [] 0 0 := Stand.of_body Bd
  have e0 : s₁.heap = h0 := by rw [← hh, Bd.state]; rfl
  have N0 := Fr.nil n0
  show WP p e below (GG (Q_rm1 Z a1 q2 u_last u_doubtFrom h0 n0) s ({ frames := 1, cells := 0, slots := 0, locals := 12 } : Room).cells ({ frames := 1, cells := 0, slots := 0, locals := 12 } : Room).slots) (s₁.setTop (entryFrame m #[(.ref a1), (.long q2)] 3))
  rw [ef_rm1 m a1 q2]
  show WP p e below _ (s₁.setTop (mkF m 0 #[.val (.ref a1), .val (.long q2), .second] []))
  refine own_go (fun t_ k => XS.aloadN X0.here hx rfl (hb hby d1_0) rfl rfl k) ?_
  show WP p e below _ (s₁.setTop (mkF m 1 #[.val (.ref a1), .val (.long q2), .second] [(.ref a1)]))
  obtain ⟨T1, X1, e1, st1⟩ := initO X0 hx hZ hown (hw _ (List.mem_of_getElem? (i := 6) rfl)) (hw _ (List.mem_of_getElem? (i := 7) rfl)) (hw _ (List.mem_of_getElem? (i := 8) rfl)) e0 (g := (mkF m 1 #[.val (.ref a1), .val (.long q2), .second] [(.ref a1)])) rfl (by rw [hml]; rfl) rfl (hb hby d1_1) (by decide) (W := 0) (by show 2 * 0 + _ ≤ _; exact Nat.le_of_eq rfl) (by decide)
  refine own_go st1 ?_
  show WP p e below _ (T1.setTop (mkF m 4 #[.val (.ref a1), .val (.long q2), .second] []))
  refine own_go (fun t_ k => XS.aloadN X1.here hx rfl (hb hby d1_4) rfl rfl k) ?_
  show WP p e below _ (T1.setTop (mkF m 5 #[.val (.ref a1), .val (.long q2), .second] [(.ref a1)]))
  refine own_go (fun t_ k => XS.iconst X1.here hx rfl (hb hby d1_5) k) ?_
  show WP p e below _ (T1.setTop (mkF m 6 #[.val (.ref a1), .val (.long q2), .second] [(.int (-1 : Int32)), (.ref a1)]))
  obtain ⟨T2, h2, X2, e2, W2, st2⟩ := putF X1 hx hZ hown (host := "") (Or.inl (hw _ (List.mem_of_getElem? (i := 9) rfl))) Via.refl e1 F_u_doubtFrom E_a (Or.inl (hw _ (List.mem_of_getElem? (i := 10) rfl))) (hw _ (List.mem_of_getElem? (i := 1) rfl)) (ty := .int) (by decide) rfl rfl (g := (mkF m 6 #[.val (.ref a1), .val (.long q2), .second] [(.int (-1 : Int32)), (.ref a1)])) rfl rfl (hb hby d1_6)
  refine own_go st2 ?_
  have Fw2 := F_u_doubtFrom.same W2
  have N2 := Fr.snoc X2 N0 g_a
  have K2 : Keep h0 h2 [a1] := (Keep.refl h0 [a1]).wr W2 (Or.inl (List.mem_of_getElem? (i := 0) rfl))
  show WP p e below _ (T2.setTop (mkF m 9 #[.val (.ref a1), .val (.long q2), .second] []))
  refine own_go (fun t_ k => XS.aloadN X2.here hx rfl (hb hby d1_9) rfl rfl k) ?_
  show WP p e below _ (T2.setTop (mkF m 10 #[.val (.ref a1), .val (.long q2), .second] [(.ref a1)]))
  refine own_go (fun t_ k => XS.lloadN X2.here hx rfl (hb hby d1_10) rfl k) ?_
  show WP p e below _ (T2.setTop (mkF m 11 #[.val (.ref a1), .val (.long q2), .second] [(.long q2), (.ref a1)]))
  obtain ⟨T3, h3, X3, e3, W3, st3⟩ := putF X2 hx hZ hown (host := "") (Or.inl (hw _ (List.mem_of_getElem? (i := 11) rfl))) Via.refl e2 (F_u_last.other W2 (Or.inr (slot_ne (Or.inl (hw _ (List.mem_of_getElem? (i := 12) rfl))) (Or.inl (hw _ (List.mem_of_getElem? (i := 10) rfl))) (by decide) (t := .long) (t' := .int) (by decide) (by decide)))) (E_a.wr W2) (Or.inl (hw _ (List.mem_of_getElem? (i := 12) rfl))) (hw _ (List.mem_of_getElem? (i := 1) rfl)) (ty := .long) (by decide) rfl rfl (g := (mkF m 11 #[.val (.ref a1), .val (.long q2), .second] [(.long q2), (.ref a1)])) rfl rfl (hb hby d1_11)
  refine own_go st3 ?_
  have Fw3 := (F_u_last.other W2 (Or.inr (slot_ne (Or.inl (hw _ (List.mem_of_getElem? (i := 12) rfl))) (Or.inl (hw _ (List.mem_of_getElem? (i := 10) rfl))) (by decide) (t := .long) (t' := .int) (by decide) (by decide)))).same W3
  have N3 := Fr.snoc X3 N2 g_a
  have K3 : Keep h0 h3 [a1] := K2.wr W3 (Or.inl (List.mem_of_getElem? (i := 0) rfl))
  show WP p e below _ (T3.setTop (mkF m 14 #[.val (.ref a1), .val (.long q2), .second] []))
  exact own_ret0 X3 hx Bd.notSynchronized Bd.returns (hb hby d1_14) (by rw [e3]; exact ⟨rfl, N3, K3, ((E_a.wr W2).wr W3), (by rw [f1_last]; exact Fw3), (by rw [f1_doubtFrom]; exact (Fw2.other W3 (Or.inr (slot_ne (Or.inl (hw _ (List.mem_of_getElem? (i := 10) rfl))) (Or.inl (hw _ (List.mem_of_getElem? (i := 12) rfl))) (by decide) (t := .int) (t' := .long) (by decide) (by decide)))))⟩) (by decide) (by decide)
def f3 (q2 : Int64) (u_last : Int64) (u_doubtFrom : Int32) : Int32 := (if u_doubtFrom < (0 : Int32) then (1 : Int32) else (if u_last < q2 then (1 : Int32) else (0 : Int32)))
def f3_last (q2 : Int64) (u_last : Int64) (u_doubtFrom : Int32) : Int64 := (if u_doubtFrom < (0 : Int32) then q2 else (if u_last < q2 then q2 else u_last))
def f3_doubtFrom (q2 : Int64) (u_last : Int64) (u_doubtFrom : Int32) : Int32 := (if u_doubtFrom < (0 : Int32) then u_doubtFrom else (if u_last < q2 then u_doubtFrom else u_doubtFrom))
def Q_rm3 (Z : State) (a1 : Addr) (q2 : Int64) (u_last : Int64) (u_doubtFrom : Int32) (h0 : Heap) (n0 : Nat) (v : Option Value) (h : Heap) (L : List Loc) : Prop := v = (some (.int (f3 q2 u_last u_doubtFrom))) ∧ Fr n0 L ∧ Keep h0 h [a1] ∧ Exa Z h a1 "com/example/holdfast/holdfast/PastDamage" ∧ Fld Z h a1 "com/example/holdfast/holdfast/PastDamage" "last" "J" (.long (f3_last q2 u_last u_doubtFrom)) ∧ Fld Z h a1 "com/example/holdfast/holdfast/PastDamage" "doubtFrom" "I" (.int (f3_doubtFrom q2 u_last u_doubtFrom))
theorem d3_0 : decode prog_35_method_2_code 0 = .ok (.aload_n 0, 1) := by decide +kernel
theorem d3_1 : decode prog_35_method_2_code 1 = .ok (.getfield 7, 3) := by decide +kernel
theorem d3_4 : decode prog_35_method_2_code 4 = .ok (.ifCond .lt 14, 3) := by decide +kernel
theorem d3_7 : decode prog_35_method_2_code 7 = .ok (.lload_n 1, 1) := by decide +kernel
theorem d3_8 : decode prog_35_method_2_code 8 = .ok (.aload_n 0, 1) := by decide +kernel
theorem d3_9 : decode prog_35_method_2_code 9 = .ok (.getfield 13, 3) := by decide +kernel
theorem d3_12 : decode prog_35_method_2_code 12 = .ok (.lcmp, 1) := by decide +kernel
theorem d3_13 : decode prog_35_method_2_code 13 = .ok (.ifCond .gt 5, 3) := by decide +kernel
theorem d3_16 : decode prog_35_method_2_code 16 = .ok (.iconst 0, 1) := by decide +kernel
theorem d3_17 : decode prog_35_method_2_code 17 = .ok (.ireturn, 1) := by decide +kernel
theorem d3_18 : decode prog_35_method_2_code 18 = .ok (.aload_n 0, 1) := by decide +kernel
theorem d3_19 : decode prog_35_method_2_code 19 = .ok (.lload_n 1, 1) := by decide +kernel
theorem d3_20 : decode prog_35_method_2_code 20 = .ok (.putfield 13, 3) := by decide +kernel
theorem d3_23 : decode prog_35_method_2_code 23 = .ok (.iconst 1, 1) := by decide +kernel
theorem d3_24 : decode prog_35_method_2_code 24 = .ok (.ireturn, 1) := by decide +kernel
theorem ef_rm3 (m : MethodId) (x0 : Addr) (x1 : Int64) : entryFrame m #[(.ref x0), (.long x1)] 3 = mkF m 0 #[.val (.ref x0), .val (.long x1), .second] [] := by first | (simp [entryFrame, mkF, argsToLocals, Value.category]; done) | rfl
set_option maxRecDepth 65536 in
set_option maxHeartbeats 40000000 in
theorem rm3 (l : Launch) (Z : State) (a0 : Array Value) (hw : ∀ d ∈ tables_1, d.before a0 Z = true) (ws : List Jvm.Cond) (a1 : Addr) (q2 : Int64) (u_last : Int64) (u_doubtFrom : Int32) (h0 : Heap) (n0 : Nat) (E_a : Exa Z h0 a1 "com/example/holdfast/holdfast/PastDamage") (g_a : n0 ≤ a1) (F_u_last : Fld Z h0 a1 "com/example/holdfast/holdfast/PastDamage" "last" "J" (.long u_last)) (F_u_doubtFrom : Fld Z h0 a1 "com/example/holdfast/holdfast/PastDamage" "doubtFrom" "I" (.int u_doubtFrom)) :
    MetFree l (⟨"com/example/holdfast/holdfast/PastDamage", "takes", "(J)Z"⟩ : MethodName) (head1 (Jvm.Cond.code (⟨"com/example/holdfast/holdfast/PastDamage", "takes", "(J)Z"⟩ : MethodName) prog_35_method_2_code 3 (some .boolean) :: ws) ({ frames := 0, cells := 0, slots := 0, locals := 0 } : Room)) (fun a U => a = #[(.ref a1), (.long q2)] ∧ Z.Warmed39 U.vm ∧ U.heap = h0) (fun _ _ _ _ _ => True) (fun _ U o U' => ∃ v L, o = .returned v ∧ (Q_rm3 Z a1 q2 u_last u_doubtFrom h0 n0) v U'.heap L ∧ FrameEnd U o U' L ({ frames := 0, cells := 0, slots := 0, locals := 0 } : Room).cells ({ frames := 0, cells := 0, slots := 0, locals := 0 } : Room).slots) := by
  refine MetFree.of_bodySF (plainFor_of_name pn_0) hisR ?_
  intro p e s m args below meth c s₁ Bd hml0 hP hK
  obtain ⟨rfl, hZ, hh⟩ := hP
  have hx := Bd.exec
  have hby := Bd.bytes
  have hml : c.maxLocals = 3 := hml0
  have hown : s.vm.findClass "com/example/holdfast/holdfast/PastDamage" = some m.cls := findClass_of_methodNamed Bd.named
  have hnm := (name_of_methodNamed Bd.named Bd.method).1
  have X0 : Stand p l e ({ frames := 0, cells := 0, slots := 0, locals := 0 } : Room) s m #[(.ref a1), (.long q2)] below meth c s₁ [] 0 0 := Stand.of_body Bd
  have e0 : s₁.heap = h0 := by rw [← hh, Bd.state]; rfl
  have N0 := Fr.nil n0
  show WP p e below (GG (Q_rm3 Z a1 q2 u_last u_doubtFrom h0 n0) s ({ frames := 0, cells := 0, slots := 0, locals := 0 } : Room).cells ({ frames := 0, cells := 0, slots := 0, locals := 0 } : Room).slots) (s₁.setTop (entryFrame m #[(.ref a1), (.long q2)] 3))
  rw [ef_rm3 m a1 q2]
  show WP p e below _ (s₁.setTop (mkF m 0 #[.val (.ref a1), .val (.long q2), .second] []))
  refine own_go (fun t_ k => XS.aloadN X0.here hx rfl (hb hby d3_0) rfl rfl k) ?_
  show WP p e below _ (s₁.setTop (mkF m 1 #[.val (.ref a1), .val (.long q2), .second] [(.ref a1)]))
  obtain ⟨T1, X1, e1, st1⟩ := getF X0 hx hZ hown (host := "") (Or.inl (hw _ (List.mem_of_getElem? (i := 9) rfl))) Via.refl e0 F_u_doubtFrom (g := (mkF m 1 #[.val (.ref a1), .val (.long q2), .second] [(.ref a1)])) rfl rfl (hb hby d3_1)
  refine own_go st1 ?_
  show WP p e below _ (T1.setTop (mkF m 4 #[.val (.ref a1), .val (.long q2), .second] [(.int u_doubtFrom)]))
  by_cases hc4_2 : u_doubtFrom < (0 : Int32)
  · refine own_go (fun t_ k => XS.ifYes X1.here hx rfl (pc0 := 4) (pc' := 18) rfl (hb hby d3_4) rfl ((if0 _ _).trans (tlt hc4_2).1) (by decide) (by decide) k) ?_
    show WP p e below _ (T1.setTop (mkF m 18 #[.val (.ref a1), .val (.long q2), .second] []))
    refine own_go (fun t_ k => XS.aloadN X1.here hx rfl (hb hby d3_18) rfl rfl k) ?_
    show WP p e below _ (T1.setTop (mkF m 19 #[.val (.ref a1), .val (.long q2), .second] [(.ref a1)]))
    refine own_go (fun t_ k => XS.lloadN X1.here hx rfl (hb hby d3_19) rfl k) ?_
    show WP p e below _ (T1.setTop (mkF m 20 #[.val (.ref a1), .val (.long q2), .second] [(.long q2), (.ref a1)]))
    obtain ⟨T3, h3, X3, e3, W3, st3⟩ := putF X1 hx hZ hown (host := "") (Or.inl (hw _ (List.mem_of_getElem? (i := 11) rfl))) Via.refl e1 F_u_last E_a (Or.inl (hw _ (List.mem_of_getElem? (i := 12) rfl))) (hw _ (List.mem_of_getElem? (i := 1) rfl)) (ty := .long) (by decide) rfl rfl (g := (mkF m 20 #[.val (.ref a1), .val (.long q2), .second] [(.long q2), (.ref a1)])) rfl rfl (hb hby d3_20)
    refine own_go st3 ?_
    have Fw3 := F_u_last.same W3
    have N3 := Fr.snoc X3 N0 g_a
    have K3 : Keep h0 h3 [a1] := (Keep.refl h0 [a1]).wr W3 (Or.inl (List.mem_of_getElem? (i := 0) rfl))
    show WP p e below _ (T3.setTop (mkF m 23 #[.val (.ref a1), .val (.long q2), .second] []))
    refine own_go (fun t_ k => XS.iconst X3.here hx rfl (hb hby d3_23) k) ?_
    show WP p e below _ (T3.setTop (mkF m 24 #[.val (.ref a1), .val (.long q2), .second] [(.int (1 : Int32))]))
    exact own_retZ X3 hx Bd.notSynchronized Bd.returns (hb hby d3_24) (by decide) (by rw [e3]; exact ⟨by rw [f3, if_pos hc4_2], N3, K3, (E_a.wr W3), (by rw [f3_last, if_pos hc4_2]; exact Fw3), (by rw [f3_doubtFrom, if_pos hc4_2]; exact (F_u_doubtFrom.other W3 (Or.inr (slot_ne (Or.inl (hw _ (List.mem_of_getElem? (i := 10) rfl))) (Or.inl (hw _ (List.mem_of_getElem? (i := 12) rfl))) (by decide) (t := .int) (t' := .long) (by decide) (by decide)))))⟩) (by decide) (by decide)
  · refine own_go (fun t_ k => XS.ifNo X1.here hx rfl (hb hby d3_4) rfl ((if0 _ _).trans (flt hc4_2).1) k) ?_
    show WP p e below _ (T1.setTop (mkF m 7 #[.val (.ref a1), .val (.long q2), .second] []))
    refine own_go (fun t_ k => XS.lloadN X1.here hx rfl (hb hby d3_7) rfl k) ?_
    show WP p e below _ (T1.setTop (mkF m 8 #[.val (.ref a1), .val (.long q2), .second] [(.long q2)]))
    refine own_go (fun t_ k => XS.aloadN X1.here hx rfl (hb hby d3_8) rfl rfl k) ?_
    show WP p e below _ (T1.setTop (mkF m 9 #[.val (.ref a1), .val (.long q2), .second] [(.ref a1), (.long q2)]))
    obtain ⟨T4, X4, e4, st4⟩ := getF X1 hx hZ hown (host := "") (Or.inl (hw _ (List.mem_of_getElem? (i := 11) rfl))) Via.refl e1 F_u_last (g := (mkF m 9 #[.val (.ref a1), .val (.long q2), .second] [(.ref a1), (.long q2)])) rfl rfl (hb hby d3_9)
    refine own_go st4 ?_
    show WP p e below _ (T4.setTop (mkF m 12 #[.val (.ref a1), .val (.long q2), .second] [(.long u_last), (.long q2)]))
    refine own_go (fun t_ k => XS.lcmp X4.here hx rfl (hb hby d3_12) rfl k) ?_
    show WP p e below _ (T4.setTop (mkF m 13 #[.val (.ref a1), .val (.long q2), .second] [(.int (lcmpW q2 u_last))]))
    by_cases hc13_5 : u_last < q2
    · refine own_go (fun t_ k => XS.ifYes X4.here hx rfl (pc0 := 13) (pc' := 18) rfl (hb hby d3_13) rfl ((if0 _ _).trans (tlt ((lw_gt _ _).mpr hc13_5)).2.2.1) (by decide) (by decide) k) ?_
      show WP p e below _ (T4.setTop (mkF m 18 #[.val (.ref a1), .val (.long q2), .second] []))
      refine own_go (fun t_ k => XS.aloadN X4.here hx rfl (hb hby d3_18) rfl rfl k) ?_
      show WP p e below _ (T4.setTop (mkF m 19 #[.val (.ref a1), .val (.long q2), .second] [(.ref a1)]))
      refine own_go (fun t_ k => XS.lloadN X4.here hx rfl (hb hby d3_19) rfl k) ?_
      show WP p e below _ (T4.setTop (mkF m 20 #[.val (.ref a1), .val (.long q2), .second] [(.long q2), (.ref a1)]))
      obtain ⟨T6, h6, X6, e6, W6, st6⟩ := putF X4 hx hZ hown (host := "") (Or.inl (hw _ (List.mem_of_getElem? (i := 11) rfl))) Via.refl e4 F_u_last E_a (Or.inl (hw _ (List.mem_of_getElem? (i := 12) rfl))) (hw _ (List.mem_of_getElem? (i := 1) rfl)) (ty := .long) (by decide) rfl rfl (g := (mkF m 20 #[.val (.ref a1), .val (.long q2), .second] [(.long q2), (.ref a1)])) rfl rfl (hb hby d3_20)
      refine own_go st6 ?_
      have Fw6 := F_u_last.same W6
      have N6 := Fr.snoc X6 N0 g_a
      have K6 : Keep h0 h6 [a1] := (Keep.refl h0 [a1]).wr W6 (Or.inl (List.mem_of_getElem? (i := 0) rfl))
      show WP p e below _ (T6.setTop (mkF m 23 #[.val (.ref a1), .val (.long q2), .second] []))
      refine own_go (fun t_ k => XS.iconst X6.here hx rfl (hb hby d3_23) k) ?_
      show WP p e below _ (T6.setTop (mkF m 24 #[.val (.ref a1), .val (.long q2), .second] [(.int (1 : Int32))]))
      exact own_retZ X6 hx Bd.notSynchronized Bd.returns (hb hby d3_24) (by decide) (by rw [e6]; exact ⟨by rw [f3, if_neg hc4_2, if_pos hc13_5], N6, K6, (E_a.wr W6), (by rw [f3_last, if_neg hc4_2, if_pos hc13_5]; exact Fw6), (by rw [f3_doubtFrom, if_neg hc4_2, if_pos hc13_5]; exact (F_u_doubtFrom.other W6 (Or.inr (slot_ne (Or.inl (hw _ (List.mem_of_getElem? (i := 10) rfl))) (Or.inl (hw _ (List.mem_of_getElem? (i := 12) rfl))) (by decide) (t := .int) (t' := .long) (by decide) (by decide)))))⟩) (by decide) (by decide)
    · refine own_go (fun t_ k => XS.ifNo X4.here hx rfl (hb hby d3_13) rfl ((if0 _ _).trans (flt (mt (lw_gt _ _).mp hc13_5)).2.2.1) k) ?_
      show WP p e below _ (T4.setTop (mkF m 16 #[.val (.ref a1), .val (.long q2), .second] []))
      refine own_go (fun t_ k => XS.iconst X4.here hx rfl (hb hby d3_16) k) ?_
      show WP p e below _ (T4.setTop (mkF m 17 #[.val (.ref a1), .val (.long q2), .second] [(.int (0 : Int32))]))
      exact own_retZ X4 hx Bd.notSynchronized Bd.returns (hb hby d3_17) (by decide) (by rw [e4]; exact ⟨by rw [f3, if_neg hc4_2, if_neg hc13_5], N0, (Keep.refl h0 [a1]), E_a, (by rw [f3_last, if_neg hc4_2, if_neg hc13_5]; exact F_u_last), (by rw [f3_doubtFrom, if_neg hc4_2, if_neg hc13_5]; exact F_u_doubtFrom)⟩) (by decide) (by decide)
def f4 (q2 : Int64) (p3 : Int32) (u_last : Int64) (u_doubtFrom : Int32) : Int32 := (if q2 = (u_last + (2 : Int64)) then (1 : Int32) else (0 : Int32))
def f4_last (q2 : Int64) (p3 : Int32) (u_last : Int64) (u_doubtFrom : Int32) : Int64 := (if q2 = (u_last + (2 : Int64)) then u_last else u_last)
def f4_doubtFrom (q2 : Int64) (p3 : Int32) (u_last : Int64) (u_doubtFrom : Int32) : Int32 := (if q2 = (u_last + (2 : Int64)) then p3 else u_doubtFrom)
def Q_rm4 (Z : State) (a1 : Addr) (q2 : Int64) (p3 : Int32) (u_last : Int64) (u_doubtFrom : Int32) (h0 : Heap) (n0 : Nat) (v : Option Value) (h : Heap) (L : List Loc) : Prop := v = (some (.int (f4 q2 p3 u_last u_doubtFrom))) ∧ Fr n0 L ∧ Keep h0 h [a1] ∧ Exa Z h a1 "com/example/holdfast/holdfast/PastDamage" ∧ Fld Z h a1 "com/example/holdfast/holdfast/PastDamage" "last" "J" (.long (f4_last q2 p3 u_last u_doubtFrom)) ∧ Fld Z h a1 "com/example/holdfast/holdfast/PastDamage" "doubtFrom" "I" (.int (f4_doubtFrom q2 p3 u_last u_doubtFrom))
theorem d4_0 : decode prog_35_method_4_code 0 = .ok (.lload_n 1, 1) := by decide +kernel
theorem d4_1 : decode prog_35_method_4_code 1 = .ok (.aload_n 0, 1) := by decide +kernel
theorem d4_2 : decode prog_35_method_4_code 2 = .ok (.getfield 13, 3) := by decide +kernel
theorem d4_5 : decode prog_35_method_4_code 5 = .ok (.ldc2_w 17, 3) := by decide +kernel
theorem d4_8 : decode prog_35_method_4_code 8 = .ok (.ladd, 1) := by decide +kernel
theorem d4_9 : decode prog_35_method_4_code 9 = .ok (.lcmp, 1) := by decide +kernel
theorem d4_10 : decode prog_35_method_4_code 10 = .ok (.ifCond .eq 5, 3) := by decide +kernel
theorem d4_13 : decode prog_35_method_4_code 13 = .ok (.iconst 0, 1) := by decide +kernel
theorem d4_14 : decode prog_35_method_4_code 14 = .ok (.ireturn, 1) := by decide +kernel
theorem d4_15 : decode prog_35_method_4_code 15 = .ok (.aload_n 0, 1) := by decide +kernel
theorem d4_16 : decode prog_35_method_4_code 16 = .ok (.iload_n 3, 1) := by decide +kernel
theorem d4_17 : decode prog_35_method_4_code 17 = .ok (.putfield 7, 3) := by decide +kernel
theorem d4_20 : decode prog_35_method_4_code 20 = .ok (.iconst 1, 1) := by decide +kernel
theorem d4_21 : decode prog_35_method_4_code 21 = .ok (.ireturn, 1) := by decide +kernel
theorem ef_rm4 (m : MethodId) (x0 : Addr) (x1 : Int64) (x2 : Int32) : entryFrame m #[(.ref x0), (.long x1), (.int x2)] 4 = mkF m 0 #[.val (.ref x0), .val (.long x1), .second, .val (.int x2)] [] := by first | (simp [entryFrame, mkF, argsToLocals, Value.category]; done) | rfl
set_option maxRecDepth 65536 in
set_option maxHeartbeats 40000000 in
theorem rm4 (l : Launch) (Z : State) (a0 : Array Value) (hw : ∀ d ∈ tables_1, d.before a0 Z = true) (ws : List Jvm.Cond) (a1 : Addr) (q2 : Int64) (p3 : Int32) (u_last : Int64) (u_doubtFrom : Int32) (h0 : Heap) (n0 : Nat) (E_a : Exa Z h0 a1 "com/example/holdfast/holdfast/PastDamage") (g_a : n0 ≤ a1) (F_u_last : Fld Z h0 a1 "com/example/holdfast/holdfast/PastDamage" "last" "J" (.long u_last)) (F_u_doubtFrom : Fld Z h0 a1 "com/example/holdfast/holdfast/PastDamage" "doubtFrom" "I" (.int u_doubtFrom)) :
    MetFree l (⟨"com/example/holdfast/holdfast/PastDamage", "picksUpAt", "(JI)Z"⟩ : MethodName) (head1 (Jvm.Cond.code (⟨"com/example/holdfast/holdfast/PastDamage", "picksUpAt", "(JI)Z"⟩ : MethodName) prog_35_method_4_code 4 (some .boolean) :: ws) ({ frames := 0, cells := 0, slots := 0, locals := 0 } : Room)) (fun a U => a = #[(.ref a1), (.long q2), (.int p3)] ∧ Z.Warmed39 U.vm ∧ U.heap = h0) (fun _ _ _ _ _ => True) (fun _ U o U' => ∃ v L, o = .returned v ∧ (Q_rm4 Z a1 q2 p3 u_last u_doubtFrom h0 n0) v U'.heap L ∧ FrameEnd U o U' L ({ frames := 0, cells := 0, slots := 0, locals := 0 } : Room).cells ({ frames := 0, cells := 0, slots := 0, locals := 0 } : Room).slots) := by
  refine MetFree.of_bodySF (plainFor_of_name pn_0) hisR ?_
  intro p e s m args below meth c s₁ Bd hml0 hP hK
  obtain ⟨rfl, hZ, hh⟩ := hP
  have hx := Bd.exec
  have hby := Bd.bytes
  have hml : c.maxLocals = 4 := hml0
  have hown : s.vm.findClass "com/example/holdfast/holdfast/PastDamage" = some m.cls := findClass_of_methodNamed Bd.named
  have hnm := (name_of_methodNamed Bd.named Bd.method).1
  have X0 : Stand p l e ({ frames := 0, cells := 0, slots := 0, locals := 0 } : Room) s m #[(.ref a1), (.long q2), (.int p3)] below meth c s₁ [] 0 0 := Stand.of_body Bd
  have e0 : s₁.heap = h0 := by rw [← hh, Bd.state]; rfl
  have N0 := Fr.nil n0
  show WP p e below (GG (Q_rm4 Z a1 q2 p3 u_last u_doubtFrom h0 n0) s ({ frames := 0, cells := 0, slots := 0, locals := 0 } : Room).cells ({ frames := 0, cells := 0, slots := 0, locals := 0 } : Room).slots) (s₁.setTop (entryFrame m #[(.ref a1), (.long q2), (.int p3)] 4))
  rw [ef_rm4 m a1 q2 p3]
  show WP p e below _ (s₁.setTop (mkF m 0 #[.val (.ref a1), .val (.long q2), .second, .val (.int p3)] []))
  refine own_go (fun t_ k => XS.lloadN X0.here hx rfl (hb hby d4_0) rfl k) ?_
  show WP p e below _ (s₁.setTop (mkF m 1 #[.val (.ref a1), .val (.long q2), .second, .val (.int p3)] [(.long q2)]))
  refine own_go (fun t_ k => XS.aloadN X0.here hx rfl (hb hby d4_1) rfl rfl k) ?_
  show WP p e below _ (s₁.setTop (mkF m 2 #[.val (.ref a1), .val (.long q2), .second, .val (.int p3)] [(.ref a1), (.long q2)]))
  obtain ⟨T1, X1, e1, st1⟩ := getF X0 hx hZ hown (host := "") (Or.inl (hw _ (List.mem_of_getElem? (i := 11) rfl))) Via.refl e0 F_u_last (g := (mkF m 2 #[.val (.ref a1), .val (.long q2), .second, .val (.int p3)] [(.ref a1), (.long q2)])) rfl rfl (hb hby d4_2)
  refine own_go st1 ?_
  show WP p e below _ (T1.setTop (mkF m 5 #[.val (.ref a1), .val (.long q2), .second, .val (.int p3)] [(.long u_last), (.long q2)]))
  refine own_go (fun t_ k => X1.ldc2Long hx hown (mvT hZ (hw _ (List.mem_of_getElem? (i := 24) rfl))) (g := (mkF m 5 #[.val (.ref a1), .val (.long q2), .second, .val (.int p3)] [(.long u_last), (.long q2)])) rfl (hb hby d4_5) _ k) ?_
  show WP p e below _ (T1.setTop (mkF m 8 #[.val (.ref a1), .val (.long q2), .second, .val (.int p3)] [(.long (2 : Int64)), (.long u_last), (.long q2)]))
  refine own_go (fun t_ k => XS.ladd X1.here hx rfl (hb hby d4_8) rfl k) ?_
  show WP p e below _ (T1.setTop (mkF m 9 #[.val (.ref a1), .val (.long q2), .second, .val (.int p3)] [(.long (u_last + (2 : Int64))), (.long q2)]))
  refine own_go (fun t_ k => XS.lcmp X1.here hx rfl (hb hby d4_9) rfl k) ?_
  show WP p e below _ (T1.setTop (mkF m 10 #[.val (.ref a1), .val (.long q2), .second, .val (.int p3)] [(.int (lcmpW q2 (u_last + (2 : Int64))))]))
  by_cases hc10_2 : q2 = (u_last + (2 : Int64))
  · refine own_go (fun t_ k => XS.ifYes X1.here hx rfl (pc0 := 10) (pc' := 15) rfl (hb hby d4_10) rfl ((if0 _ _).trans (teq ((lw_eq _ _).mpr hc10_2)).1) (by decide) (by decide) k) ?_
    show WP p e below _ (T1.setTop (mkF m 15 #[.val (.ref a1), .val (.long q2), .second, .val (.int p3)] []))
    refine own_go (fun t_ k => XS.aloadN X1.here hx rfl (hb hby d4_15) rfl rfl k) ?_
    show WP p e below _ (T1.setTop (mkF m 16 #[.val (.ref a1), .val (.long q2), .second, .val (.int p3)] [(.ref a1)]))
    refine own_go (fun t_ k => XS.iloadN X1.here hx rfl (hb hby d4_16) rfl k) ?_
    show WP p e below _ (T1.setTop (mkF m 17 #[.val (.ref a1), .val (.long q2), .second, .val (.int p3)] [(.int p3), (.ref a1)]))
    obtain ⟨T3, h3, X3, e3, W3, st3⟩ := putF X1 hx hZ hown (host := "") (Or.inl (hw _ (List.mem_of_getElem? (i := 9) rfl))) Via.refl e1 F_u_doubtFrom E_a (Or.inl (hw _ (List.mem_of_getElem? (i := 10) rfl))) (hw _ (List.mem_of_getElem? (i := 1) rfl)) (ty := .int) (by decide) rfl rfl (g := (mkF m 17 #[.val (.ref a1), .val (.long q2), .second, .val (.int p3)] [(.int p3), (.ref a1)])) rfl rfl (hb hby d4_17)
    refine own_go st3 ?_
    have Fw3 := F_u_doubtFrom.same W3
    have N3 := Fr.snoc X3 N0 g_a
    have K3 : Keep h0 h3 [a1] := (Keep.refl h0 [a1]).wr W3 (Or.inl (List.mem_of_getElem? (i := 0) rfl))
    show WP p e below _ (T3.setTop (mkF m 20 #[.val (.ref a1), .val (.long q2), .second, .val (.int p3)] []))
    refine own_go (fun t_ k => XS.iconst X3.here hx rfl (hb hby d4_20) k) ?_
    show WP p e below _ (T3.setTop (mkF m 21 #[.val (.ref a1), .val (.long q2), .second, .val (.int p3)] [(.int (1 : Int32))]))
    exact own_retZ X3 hx Bd.notSynchronized Bd.returns (hb hby d4_21) (by decide) (by rw [e3]; exact ⟨by rw [f4, if_pos hc10_2], N3, K3, (E_a.wr W3), (by rw [f4_last, if_pos hc10_2]; exact (F_u_last.other W3 (Or.inr (slot_ne (Or.inl (hw _ (List.mem_of_getElem? (i := 12) rfl))) (Or.inl (hw _ (List.mem_of_getElem? (i := 10) rfl))) (by decide) (t := .long) (t' := .int) (by decide) (by decide))))), (by rw [f4_doubtFrom, if_pos hc10_2]; exact Fw3)⟩) (by decide) (by decide)
  · refine own_go (fun t_ k => XS.ifNo X1.here hx rfl (hb hby d4_10) rfl ((if0 _ _).trans (feq (mt (lw_eq _ _).mp hc10_2)).1) k) ?_
    show WP p e below _ (T1.setTop (mkF m 13 #[.val (.ref a1), .val (.long q2), .second, .val (.int p3)] []))
    refine own_go (fun t_ k => XS.iconst X1.here hx rfl (hb hby d4_13) k) ?_
    show WP p e below _ (T1.setTop (mkF m 14 #[.val (.ref a1), .val (.long q2), .second, .val (.int p3)] [(.int (0 : Int32))]))
    exact own_retZ X1 hx Bd.notSynchronized Bd.returns (hb hby d4_14) (by decide) (by rw [e1]; exact ⟨by rw [f4, if_neg hc10_2], N0, (Keep.refl h0 [a1]), E_a, (by rw [f4_last, if_neg hc10_2]; exact F_u_last), (by rw [f4_doubtFrom, if_neg hc10_2]; exact F_u_doubtFrom)⟩) (by decide) (by decide)
theorem pd_0 : parseMethodDescriptor "(J)V" = some ⟨[.long], none⟩ := by decide +kernel
theorem pd_1 : parseMethodDescriptor "(J)Z" = some ⟨[.long], some .boolean⟩ := by decide +kernel
theorem pd_2 : parseMethodDescriptor "(JI)Z" = some ⟨[.long, .int], some .boolean⟩ := by decide +kernel
theorem own_law_1 {q1 : Int64} {q2 : Int64} {q3 : Int64} {p4 : Int32} {z2_S0 : Int32} {vj6 : Int64} {vi7 : Int32} {z10_S0 : Int32} {zz13_S0 : Int64} {vj16 : Int64} {vi17 : Int32} {vi18 : Int32} {zz20_S0 : Int64} {z23_S0 : Int32} {zz26_S0 : Int64} {vj29 : Int64} {vi30 : Int32} {vi31 : Int32} {vj33 : Int64} {vi34 : Int32} {vi35 : Int32} {z38_S0 : Int32}
    (hz2_S0 : z2_S0 = (if (p4 &&& (1 : Int32)) = (0 : Int32) then (0 : Int32) else (1 : Int32)))
    (he6 : (f1_last q1 (0 : Int64) (0 : Int32)) = vj6)
    (he7 : (f1_doubtFrom q1 (0 : Int64) (0 : Int32)) = vi7)
    (hz10_S0 : z10_S0 = (if z2_S0 = (0 : Int32) then (1 : Int32) else (if q1 < q2 then (1 : Int32) else (0 : Int32))))
    (hzz13_S0 : zz13_S0 = (if z10_S0 = (0 : Int32) then q1 else q2))
    (he16 : (f3_last q2 vj6 vi7) = vj16)
    (he17 : (f3_doubtFrom q2 vj6 vi7) = vi17)
    (he18 : (f3 q2 vj6 vi7) = vi18)
    (hzz20_S0 : zz20_S0 = (if (p4 &&& (2 : Int32)) = (0 : Int32) then (zz13_S0 + ((((p4 >>> ((2 : Int32) &&& 31)) &&& (3 : Int32)) - (1 : Int32)).toInt64)) else q3))
    (hz23_S0 : z23_S0 = (if z2_S0 = (0 : Int32) then (1 : Int32) else (if zz13_S0 < zz20_S0 then (1 : Int32) else (0 : Int32))))
    (hzz26_S0 : zz26_S0 = (if z23_S0 = (0 : Int32) then zz13_S0 else zz20_S0))
    (he29 : (f3_last zz20_S0 vj16 vi17) = vj29)
    (he30 : (f3_doubtFrom zz20_S0 vj16 vi17) = vi30)
    (he31 : (f3 zz20_S0 vj16 vi17) = vi31)
    (he33 : (f4_last (zz26_S0 + (2 : Int64)) (0 : Int32) vj29 vi30) = vj33)
    (he34 : (f4_doubtFrom (zz26_S0 + (2 : Int64)) (0 : Int32) vj29 vi30) = vi34)
    (he35 : (f4 (zz26_S0 + (2 : Int64)) (0 : Int32) vj29 vi30) = vi35)
    (hz38_S0 : z38_S0 = (if vi18 = z10_S0 then (if vi31 = z23_S0 then (if vi35 = (0 : Int32) then (0 : Int32) else (1 : Int32)) else (0 : Int32)) else (0 : Int32))) (hc29_8 : (z2_S0 = (0 : Int32))) : z38_S0 = 1 := by
  have m1 : (-1 : Int32) < 0 := by decide
  simp only [f1_last, f1_doubtFrom, f3, f3_last, f3_doubtFrom, f4, f4_last, f4_doubtFrom, m1, hc29_8, if_true, if_false, ite_self] at *
  subst he6 he7 hz10_S0 hzz13_S0 he16 he17 he18 hzz20_S0 hz23_S0 hzz26_S0 he29 he30 he31 he33 he34 he35 hz38_S0
  simp
theorem own_law_2 {q1 : Int64} {q2 : Int64} {q3 : Int64} {p4 : Int32} {z2_S0 : Int32} {vj6 : Int64} {vi7 : Int32} {vj45 : Int64} {vi46 : Int32} {vi47 : Int32} {z49_S0 : Int32} {zz52_S0 : Int64} {vj55 : Int64} {vi56 : Int32} {vi57 : Int32} {zz59_S0 : Int64} {z62_S0 : Int32} {zz65_S0 : Int64} {vj68 : Int64} {vi69 : Int32} {vi70 : Int32} {vj72 : Int64} {vi73 : Int32} {vi74 : Int32} {z76_S0 : Int32}
    (hz2_S0 : z2_S0 = (if (p4 &&& (1 : Int32)) = (0 : Int32) then (0 : Int32) else (1 : Int32)))
    (he6 : (f1_last q1 (0 : Int64) (0 : Int32)) = vj6)
    (he7 : (f1_doubtFrom q1 (0 : Int64) (0 : Int32)) = vi7)
    (he45 : (f4_last (q1 + (2 : Int64)) (0 : Int32) vj6 vi7) = vj45)
    (he46 : (f4_doubtFrom (q1 + (2 : Int64)) (0 : Int32) vj6 vi7) = vi46)
    (he47 : (f4 (q1 + (2 : Int64)) (0 : Int32) vj6 vi7) = vi47)
    (hz49_S0 : z49_S0 = (if z2_S0 = (0 : Int32) then (1 : Int32) else (if q1 < q2 then (1 : Int32) else (0 : Int32))))
    (hzz52_S0 : zz52_S0 = (if z49_S0 = (0 : Int32) then q1 else q2))
    (he55 : (f3_last q2 vj45 vi46) = vj55)
    (he56 : (f3_doubtFrom q2 vj45 vi46) = vi56)
    (he57 : (f3 q2 vj45 vi46) = vi57)
    (hzz59_S0 : zz59_S0 = (if (p4 &&& (2 : Int32)) = (0 : Int32) then (zz52_S0 + ((((p4 >>> ((2 : Int32) &&& 31)) &&& (3 : Int32)) - (1 : Int32)).toInt64)) else q3))
    (hz62_S0 : z62_S0 = (if z2_S0 = (0 : Int32) then (1 : Int32) else (if zz52_S0 < zz59_S0 then (1 : Int32) else (0 : Int32))))
    (hzz65_S0 : zz65_S0 = (if z62_S0 = (0 : Int32) then zz52_S0 else zz59_S0))
    (he68 : (f3_last zz59_S0 vj55 vi56) = vj68)
    (he69 : (f3_doubtFrom zz59_S0 vj55 vi56) = vi69)
    (he70 : (f3 zz59_S0 vj55 vi56) = vi70)
    (he72 : (f4_last (zz65_S0 + (2 : Int64)) (0 : Int32) vj68 vi69) = vj72)
    (he73 : (f4_doubtFrom (zz65_S0 + (2 : Int64)) (0 : Int32) vj68 vi69) = vi73)
    (he74 : (f4 (zz65_S0 + (2 : Int64)) (0 : Int32) vj68 vi69) = vi74)
    (hz76_S0 : z76_S0 = (if vi47 = (0 : Int32) then (0 : Int32) else (if vi57 = z49_S0 then (if vi70 = z62_S0 then (if vi74 = (0 : Int32) then (0 : Int32) else (1 : Int32)) else (0 : Int32)) else (0 : Int32)))) (hc29_8 : ¬ (z2_S0 = (0 : Int32))) : z76_S0 = 1 := by
  have m1 : (-1 : Int32) < 0 := by decide
  have m2 : ¬ (0 : Int32) < 0 := by decide
  simp only [f1_last, f1_doubtFrom, f3, f3_last, f3_doubtFrom, f4, f4_last, f4_doubtFrom, m1, m2, hc29_8, if_true, if_false, ite_self] at *
  subst he6 he7 he45 he46 he47 hz49_S0 hzz52_S0 he55 he56 he57 hzz59_S0 hz62_S0 hzz65_S0 he68 he69 he70 he72 he73 he74 hz76_S0
  by_cases a : q1 < q2
  · simp [a]
    generalize (if p4 &&& 2 = 0 then q2 + ((p4 >>> (2 &&& 31) &&& 3) - 1).toInt64 else q3) = w
    by_cases b : q2 < w
    · simp [b, Int64.not_le.mpr b]
    · simp [b, Int64.not_lt.mp b]
  · simp [a]
    generalize (if p4 &&& 2 = 0 then q1 + ((p4 >>> (2 &&& 31) &&& 3) - 1).toInt64 else q3) = w
    by_cases b : q1 < w
    · simp [b, Int64.not_le.mpr b]
    · simp [b, Int64.not_lt.mp b]
theorem pn_1 : plainName "com/example/holdfast/holdfast/PastDamageTakesPinLaw" = true := by first | (simp [plainName, overriddenIn]; done) | decide +kernel
theorem ef_rm0 (m : MethodId) (x0 : Int64) (x1 : Int64) (x2 : Int64) (x3 : Int32) : entryFrame m #[(.long x0), (.long x1), (.long x2), (.int x3)] maxLocals = mkF m 0 #[.val (.long x0), .second, .val (.long x1), .second, .val (.long x2), .second, .val (.int x3), .unset, .unset, .unset, .unset, .unset, .unset, .unset, .unset, .unset, .unset, .unset, .unset, .unset, .unset] [] := by first | (simp [entryFrame, mkF, argsToLocals, Value.category, maxLocals]; done) | rfl
set_option maxRecDepth 65536 in
set_option maxHeartbeats 40000000 in
theorem rm0 (l : Launch) (Z : State) (a0 : Array Value) (hw : ∀ d ∈ tables_1, d.before a0 Z = true) (ws : List Jvm.Cond) (q1 : Int64) (q2 : Int64) (q3 : Int64) (p4 : Int32) (h0 : Heap) (n0 : Nat) (Z0 : n0 ≤ h0.size) :
    MetFree l x (head1 (Jvm.Cond.code x code maxLocals ret :: ws) room_1) (fun a U => a = #[(.long q1), (.long q2), (.long q3), (.int p4)] ∧ Z.Warmed39 U.vm ∧ U.heap = h0) (fun _ _ _ _ _ => True) (fun _ U o U' => ∃ v L, o = .returned v ∧ (Q0 n0) v U'.heap L ∧ FrameEnd U o U' L room_1.cells room_1.slots) := by
  refine MetFree.of_bodySF (plainFor_of_name pn_1) hisR ?_
  intro p e s m args below meth c s₁ Bd hml0 hP hK
  obtain ⟨rfl, hZ, hh⟩ := hP
  have hx := Bd.exec
  have hby := Bd.bytes
  have hml : c.maxLocals = 21 := hml0
  have hown : s.vm.findClass "com/example/holdfast/holdfast/PastDamageTakesPinLaw" = some m.cls := findClass_of_methodNamed Bd.named
  have hnm := (name_of_methodNamed Bd.named Bd.method).1
  have X0 : Stand p l e room_1 s m #[(.long q1), (.long q2), (.long q3), (.int p4)] below meth c s₁ [] 0 0 := Stand.of_body Bd
  have e0 : s₁.heap = h0 := by rw [← hh, Bd.state]; rfl
  have N0 := Fr.nil n0
  show WP p e below (GG (Q0 n0) s room_1.cells room_1.slots) (s₁.setTop (entryFrame m #[(.long q1), (.long q2), (.long q3), (.int p4)] maxLocals))
  rw [ef_rm0 m q1 q2 q3 p4]
  show WP p e below _ (s₁.setTop (mkF m 0 #[.val (.long q1), .second, .val (.long q2), .second, .val (.long q3), .second, .val (.int p4), .unset, .unset, .unset, .unset, .unset, .unset, .unset, .unset, .unset, .unset, .unset, .unset, .unset, .unset] []))
  refine own_go (fun t_ k => XS.iload X0.here hx rfl (hb hby at_0) rfl k) ?_
  show WP p e below _ (s₁.setTop (mkF m 2 #[.val (.long q1), .second, .val (.long q2), .second, .val (.long q3), .second, .val (.int p4), .unset, .unset, .unset, .unset, .unset, .unset, .unset, .unset, .unset, .unset, .unset, .unset, .unset, .unset] [(.int p4)]))
  refine own_go (fun t_ k => XS.iconst X0.here hx rfl (hb hby at_2) k) ?_
  show WP p e below _ (s₁.setTop (mkF m 3 #[.val (.long q1), .second, .val (.long q2), .second, .val (.long q3), .second, .val (.int p4), .unset, .unset, .unset, .unset, .unset, .unset, .unset, .unset, .unset, .unset, .unset, .unset, .unset, .unset] [(.int (1 : Int32)), (.int p4)]))
  refine own_go (fun t_ k => XS.iand X0.here hx rfl (hb hby at_3) rfl k) ?_
  show WP p e below _ (s₁.setTop (mkF m 4 #[.val (.long q1), .second, .val (.long q2), .second, .val (.long q3), .second, .val (.int p4), .unset, .unset, .unset, .unset, .unset, .unset, .unset, .unset, .unset, .unset, .unset, .unset, .unset, .unset] [(.int (p4 &&& (1 : Int32)))]))
  have J3 : ∀ (T3 : State) (ls3 : List Loc) (X3 : Stand p l e room_1 s m #[(.long q1), (.long q2), (.long q3), (.int p4)] below meth c T3 ls3 0 0) (N3 : Fr n0 ls3) (e3 : T3.heap = h0) (z2_S0 : Int32) (hz2_S0 : z2_S0 = (if (p4 &&& (1 : Int32)) = (0 : Int32) then (0 : Int32) else (1 : Int32))), WP p e below (GG (Q0 n0) s room_1.cells room_1.slots) (T3.setTop (mkF m 12 #[.val (.long q1), .second, .val (.long q2), .second, .val (.long q3), .second, .val (.int p4), .unset, .unset, .unset, .unset, .unset, .unset, .unset, .unset, .unset, .unset, .unset, .unset, .unset, .unset] [(.int z2_S0)])) := by
    intro T3 ls3 X3 N3 e3 z2_S0 hz2_S0
    show WP p e below _ (T3.setTop (mkF m 12 #[.val (.long q1), .second, .val (.long q2), .second, .val (.long q3), .second, .val (.int p4), .unset, .unset, .unset, .unset, .unset, .unset, .unset, .unset, .unset, .unset, .unset, .unset, .unset, .unset] [(.int z2_S0)]))
    refine own_go (fun t_ k => XS.istore X3.here hx rfl (hb hby at_12) rfl (l' := #[.val (.long q1), .second, .val (.long q2), .second, .val (.long q3), .second, .val (.int p4), .val (.int z2_S0), .unset, .unset, .unset, .unset, .unset, .unset, .unset, .unset, .unset, .unset, .unset, .unset, .unset]) rfl k) ?_
    show WP p e below _ (T3.setTop (mkF m 14 #[.val (.long q1), .second, .val (.long q2), .second, .val (.long q3), .second, .val (.int p4), .val (.int z2_S0), .unset, .unset, .unset, .unset, .unset, .unset, .unset, .unset, .unset, .unset, .unset, .unset, .unset] []))
    obtain ⟨T4, h4, X4, e4, E4, A4, D4, -, st4⟩ := newO X3 hx hZ hown (hw _ (List.mem_of_getElem? (i := 0) rfl)) (hw _ (List.mem_of_getElem? (i := 1) rfl)) (hw _ (List.mem_of_getElem? (i := 2) rfl)) e3 (g := (mkF m 14 #[.val (.long q1), .second, .val (.long q2), .second, .val (.long q3), .second, .val (.int p4), .val (.int z2_S0), .unset, .unset, .unset, .unset, .unset, .unset, .unset, .unset, .unset, .unset, .unset, .unset, .unset] [])) rfl (hb hby at_14) (by decide) (by decide)
    obtain ⟨b4, g4⟩ : ∃ z, z = Array.size h0 := ⟨_, rfl⟩
    rw [← g4] at A4 D4 st4
    refine own_go st4 ?_
    have g_b4 : n0 ≤ b4 := Nat.le_trans (Nat.le_trans Z0 (Keep.refl h0 []).1) (Nat.le_of_eq g4.symm)
    have sz_b4 : h0.size ≤ b4 := Nat.le_trans (Keep.refl h0 []).1 (Nat.le_of_eq g4.symm)
    have K4 : Keep h0 h4 [] := (Keep.refl h0 []).ext E4
    have F4_doubtFrom : Fld Z h4 b4 "com/example/holdfast/holdfast/PastDamage" "doubtFrom" "I" (.int (0 : Int32)) := D4 (Or.inl (hw _ (List.mem_of_getElem? (i := 10) rfl))) (ty := .int) (by decide)
    have F4_last : Fld Z h4 b4 "com/example/holdfast/holdfast/PastDamage" "last" "J" (.long (0 : Int64)) := D4 (Or.inl (hw _ (List.mem_of_getElem? (i := 12) rfl))) (ty := .long) (by decide)
    show WP p e below _ (T4.setTop (mkF m 17 #[.val (.long q1), .second, .val (.long q2), .second, .val (.long q3), .second, .val (.int p4), .val (.int z2_S0), .unset, .unset, .unset, .unset, .unset, .unset, .unset, .unset, .unset, .unset, .unset, .unset, .unset] [(.ref b4)]))
    refine own_go (fun t_ k => XS.dup X4.here hx rfl (hb hby at_17) rfl rfl k) ?_
    show WP p e below _ (T4.setTop (mkF m 18 #[.val (.long q1), .second, .val (.long q2), .second, .val (.long q3), .second, .val (.int p4), .val (.int z2_S0), .unset, .unset, .unset, .unset, .unset, .unset, .unset, .unset, .unset, .unset, .unset, .unset, .unset] [(.ref b4), (.ref b4)]))
    refine own_go (fun t_ k => XS.lloadN X4.here hx rfl (hb hby at_18) rfl k) ?_
    show WP p e below _ (T4.setTop (mkF m 19 #[.val (.long q1), .second, .val (.long q2), .second, .val (.long q3), .second, .val (.int p4), .val (.int z2_S0), .unset, .unset, .unset, .unset, .unset, .unset, .unset, .unset, .unset, .unset, .unset, .unset, .unset] [(.long q1), (.ref b4), (.ref b4)]))
    obtain ⟨_, _, ⟨T5, L5, k5, n5⟩, -, X5, ⟨Lc5, hQ5, l5, y5, z5⟩, st5⟩ := X4.specialBack hx (y := (⟨"com/example/holdfast/holdfast/PastDamage", "<init>", "(J)V"⟩ : MethodName)) rfl hown (mvT hZ (hw _ (List.mem_of_getElem? (i := 3) rfl))) (mvT hZ (hw _ (List.mem_of_getElem? (i := 4) rfl))) (mvT hZ (hw _ (List.mem_of_getElem? (i := 5) rfl))) (by decide) (backOf (W := 1) (rm1 l Z a0 hw [] b4 q1 (0 : Int64) (0 : Int32) h4 n0 A4 g_b4 F4_last F4_doubtFrom) hZ (hw _ (List.mem_of_getElem? (i := 5) rfl)) (hw _ (List.mem_of_getElem? (i := 2) rfl)) (by decide) (by decide)) (g := (mkF m 19 #[.val (.long q1), .second, .val (.long q2), .second, .val (.long q3), .second, .val (.int p4), .val (.int z2_S0), .unset, .unset, .unset, .unset, .unset, .unset, .unset, .unset, .unset, .unset, .unset, .unset, .unset] [(.long q1), (.ref b4), (.ref b4)])) rfl (by rw [hml]; rfl) (Steps.refl _) (a := b4) (argsL := [(.long q1)]) (rest := [(.ref b4)]) (lenOf pd_0 rfl) rfl (by show 2 * 0 + _ ≤ _; exact Nat.le_of_eq rfl) (hb hby at_19) (fun _ _ => ⟨rfl, e4, (by decide : 1 + 0 ≤ _), (by decide : 2 + 0 ≤ _)⟩)
    dsimp only [Pt.U, Pt.locs, Pt.cells, Pt.slots] at X5 l5 y5 z5 st5 hQ5
    subst l5 y5 z5
    obtain ⟨rfl, N5q, K5c, E5c, F5c0, F5c1⟩ := hQ5
    have N5 := Fr.app N3 N5q
    replace X5 : Stand p l e room_1 s m _ below meth c T5 _ 1 2 := X5
    refine own_go (fun t_ k => st5.trans k) ?_
    have K5 : Keep h0 T5.heap [] := K4.trans K5c (allS (Or.inr sz_b4) all0)
    generalize he6 : (f1_last q1 (0 : Int64) (0 : Int32)) = vj6 at F5c0
    generalize he7 : (f1_doubtFrom q1 (0 : Int64) (0 : Int32)) = vi7 at F5c1
    show WP p e below _ (T5.setTop (mkF m 22 #[.val (.long q1), .second, .val (.long q2), .second, .val (.long q3), .second, .val (.int p4), .val (.int z2_S0), .unset, .unset, .unset, .unset, .unset, .unset, .unset, .unset, .unset, .unset, .unset, .unset, .unset] [(.ref b4)]))
    refine own_go (fun t_ k => XS.astore X5.here hx rfl (hb hby at_22) rfl rfl (l' := #[.val (.long q1), .second, .val (.long q2), .second, .val (.long q3), .second, .val (.int p4), .val (.int z2_S0), .val (.ref b4), .unset, .unset, .unset, .unset, .unset, .unset, .unset, .unset, .unset, .unset, .unset, .unset]) rfl k) ?_
    show WP p e below _ (T5.setTop (mkF m 24 #[.val (.long q1), .second, .val (.long q2), .second, .val (.long q3), .second, .val (.int p4), .val (.int z2_S0), .val (.ref b4), .unset, .unset, .unset, .unset, .unset, .unset, .unset, .unset, .unset, .unset, .unset, .unset] []))
    refine own_go (fun t_ k => XS.iconst X5.here hx rfl (hb hby at_24) k) ?_
    show WP p e below _ (T5.setTop (mkF m 25 #[.val (.long q1), .second, .val (.long q2), .second, .val (.long q3), .second, .val (.int p4), .val (.int z2_S0), .val (.ref b4), .unset, .unset, .unset, .unset, .unset, .unset, .unset, .unset, .unset, .unset, .unset, .unset] [(.int (1 : Int32))]))
    refine own_go (fun t_ k => XS.istore X5.here hx rfl (hb hby at_25) rfl (l' := #[.val (.long q1), .second, .val (.long q2), .second, .val (.long q3), .second, .val (.int p4), .val (.int z2_S0), .val (.ref b4), .val (.int (1 : Int32)), .unset, .unset, .unset, .unset, .unset, .unset, .unset, .unset, .unset, .unset, .unset]) rfl k) ?_
    show WP p e below _ (T5.setTop (mkF m 27 #[.val (.long q1), .second, .val (.long q2), .second, .val (.long q3), .second, .val (.int p4), .val (.int z2_S0), .val (.ref b4), .val (.int (1 : Int32)), .unset, .unset, .unset, .unset, .unset, .unset, .unset, .unset, .unset, .unset, .unset] []))
    refine own_go (fun t_ k => XS.iload X5.here hx rfl (hb hby at_27) rfl k) ?_
    show WP p e below _ (T5.setTop (mkF m 29 #[.val (.long q1), .second, .val (.long q2), .second, .val (.long q3), .second, .val (.int p4), .val (.int z2_S0), .val (.ref b4), .val (.int (1 : Int32)), .unset, .unset, .unset, .unset, .unset, .unset, .unset, .unset, .unset, .unset, .unset] [(.int z2_S0)]))
    by_cases hc29_8 : z2_S0 = (0 : Int32)
    · refine own_go (fun t_ k => XS.ifYes X5.here hx rfl (pc0 := 29) (pc' := 45) rfl (hb hby at_29) rfl ((if0 _ _).trans (teq hc29_8).1) (by decide) (by decide) k) ?_
      show WP p e below _ (T5.setTop (mkF m 45 #[.val (.long q1), .second, .val (.long q2), .second, .val (.long q3), .second, .val (.int p4), .val (.int z2_S0), .val (.ref b4), .val (.int (1 : Int32)), .unset, .unset, .unset, .unset, .unset, .unset, .unset, .unset, .unset, .unset, .unset] []))
      refine own_go (fun t_ k => XS.iload X5.here hx rfl (hb hby at_45) rfl k) ?_
      show WP p e below _ (T5.setTop (mkF m 47 #[.val (.long q1), .second, .val (.long q2), .second, .val (.long q3), .second, .val (.int p4), .val (.int z2_S0), .val (.ref b4), .val (.int (1 : Int32)), .unset, .unset, .unset, .unset, .unset, .unset, .unset, .unset, .unset, .unset, .unset] [(.int z2_S0)]))
      have J11 : ∀ (T11 : State) (ls11 : List Loc) (X11 : Stand p l e room_1 s m #[(.long q1), (.long q2), (.long q3), (.int p4)] below meth c T11 ls11 1 2) (N11 : Fr n0 ls11) (e11 : T11.heap = T5.heap) (z10_S0 : Int32) (hz10_S0 : z10_S0 = (if z2_S0 = (0 : Int32) then (1 : Int32) else (if q1 < q2 then (1 : Int32) else (0 : Int32)))), WP p e below (GG (Q0 n0) s room_1.cells room_1.slots) (T11.setTop (mkF m 61 #[.val (.long q1), .second, .val (.long q2), .second, .val (.long q3), .second, .val (.int p4), .val (.int z2_S0), .val (.ref b4), .val (.int (1 : Int32)), .unset, .unset, .unset, .unset, .unset, .unset, .unset, .unset, .unset, .unset, .unset] [(.int z10_S0)])) := by
        intro T11 ls11 X11 N11 e11 z10_S0 hz10_S0
        show WP p e below _ (T11.setTop (mkF m 61 #[.val (.long q1), .second, .val (.long q2), .second, .val (.long q3), .second, .val (.int p4), .val (.int z2_S0), .val (.ref b4), .val (.int (1 : Int32)), .unset, .unset, .unset, .unset, .unset, .unset, .unset, .unset, .unset, .unset, .unset] [(.int z10_S0)]))
        refine own_go (fun t_ k => XS.istore X11.here hx rfl (hb hby at_61) rfl (l' := #[.val (.long q1), .second, .val (.long q2), .second, .val (.long q3), .second, .val (.int p4), .val (.int z2_S0), .val (.ref b4), .val (.int (1 : Int32)), .val (.int z10_S0), .unset, .unset, .unset, .unset, .unset, .unset, .unset, .unset, .unset, .unset]) rfl k) ?_
        show WP p e below _ (T11.setTop (mkF m 63 #[.val (.long q1), .second, .val (.long q2), .second, .val (.long q3), .second, .val (.int p4), .val (.int z2_S0), .val (.ref b4), .val (.int (1 : Int32)), .val (.int z10_S0), .unset, .unset, .unset, .unset, .unset, .unset, .unset, .unset, .unset, .unset] []))
        refine own_go (fun t_ k => XS.iload X11.here hx rfl (hb hby at_63) rfl k) ?_
        show WP p e below _ (T11.setTop (mkF m 65 #[.val (.long q1), .second, .val (.long q2), .second, .val (.long q3), .second, .val (.int p4), .val (.int z2_S0), .val (.ref b4), .val (.int (1 : Int32)), .val (.int z10_S0), .unset, .unset, .unset, .unset, .unset, .unset, .unset, .unset, .unset, .unset] [(.int z10_S0)]))
        have J14 : ∀ (T14 : State) (ls14 : List Loc) (X14 : Stand p l e room_1 s m #[(.long q1), (.long q2), (.long q3), (.int p4)] below meth c T14 ls14 1 2) (N14 : Fr n0 ls14) (e14 : T14.heap = T5.heap) (zz13_S0 : Int64) (hzz13_S0 : zz13_S0 = (if z10_S0 = (0 : Int32) then q1 else q2)), WP p e below (GG (Q0 n0) s room_1.cells room_1.slots) (T14.setTop (mkF m 73 #[.val (.long q1), .second, .val (.long q2), .second, .val (.long q3), .second, .val (.int p4), .val (.int z2_S0), .val (.ref b4), .val (.int (1 : Int32)), .val (.int z10_S0), .unset, .unset, .unset, .unset, .unset, .unset, .unset, .unset, .unset, .unset] [(.long zz13_S0)])) := by
          intro T14 ls14 X14 N14 e14 zz13_S0 hzz13_S0
          show WP p e below _ (T14.setTop (mkF m 73 #[.val (.long q1), .second, .val (.long q2), .second, .val (.long q3), .second, .val (.int p4), .val (.int z2_S0), .val (.ref b4), .val (.int (1 : Int32)), .val (.int z10_S0), .unset, .unset, .unset, .unset, .unset, .unset, .unset, .unset, .unset, .unset] [(.long zz13_S0)]))
          refine own_go (fun t_ k => XS.lstore X14.here hx rfl (hb hby at_73) rfl (l' := #[.val (.long q1), .second, .val (.long q2), .second, .val (.long q3), .second, .val (.int p4), .val (.int z2_S0), .val (.ref b4), .val (.int (1 : Int32)), .val (.int z10_S0), .val (.long zz13_S0), .second, .unset, .unset, .unset, .unset, .unset, .unset, .unset, .unset]) rfl k) ?_
          show WP p e below _ (T14.setTop (mkF m 75 #[.val (.long q1), .second, .val (.long q2), .second, .val (.long q3), .second, .val (.int p4), .val (.int z2_S0), .val (.ref b4), .val (.int (1 : Int32)), .val (.int z10_S0), .val (.long zz13_S0), .second, .unset, .unset, .unset, .unset, .unset, .unset, .unset, .unset] []))
          refine own_go (fun t_ k => XS.aload X14.here hx rfl (hb hby at_75) rfl rfl k) ?_
          show WP p e below _ (T14.setTop (mkF m 77 #[.val (.long q1), .second, .val (.long q2), .second, .val (.long q3), .second, .val (.int p4), .val (.int z2_S0), .val (.ref b4), .val (.int (1 : Int32)), .val (.int z10_S0), .val (.long zz13_S0), .second, .unset, .unset, .unset, .unset, .unset, .unset, .unset, .unset] [(.ref b4)]))
          refine own_go (fun t_ k => XS.lloadN X14.here hx rfl (hb hby at_77) rfl k) ?_
          show WP p e below _ (T14.setTop (mkF m 78 #[.val (.long q1), .second, .val (.long q2), .second, .val (.long q3), .second, .val (.int p4), .val (.int z2_S0), .val (.ref b4), .val (.int (1 : Int32)), .val (.int z10_S0), .val (.long zz13_S0), .second, .unset, .unset, .unset, .unset, .unset, .unset, .unset, .unset] [(.long q2), (.ref b4)]))
          obtain ⟨cq15, kq15, q15a, q15b, q15c⟩ := isOf (T := T14) hZ e14 E5c
          obtain ⟨_, _, ⟨T15, L15, k15, n15⟩, -, X15, ⟨Lc15, hQ15, l15, y15, z15⟩, st15⟩ := X14.virtualBack hx (y := (⟨"com/example/holdfast/holdfast/PastDamage", "takes", "(J)Z"⟩ : MethodName)) (z := (⟨"com/example/holdfast/holdfast/PastDamage", "takes", "(J)Z"⟩ : MethodName)) hown (mvT hZ (hw _ (List.mem_of_getElem? (i := 13) rfl))) (mvT hZ (hw _ (List.mem_of_getElem? (i := 14) rfl))) (notFace_of_selects (args := #[]) (mvT hZ (hw _ (List.mem_of_getElem? (i := 16) rfl)))) (mvT hZ (hw _ (List.mem_of_getElem? (i := 16) rfl))) (mvT hZ (hw _ (List.mem_of_getElem? (i := 15) rfl))) (by decide) (backOf (W := 0) (rm3 l Z a0 hw [] b4 q2 vj6 vi7 T5.heap n0 E5c g_b4 F5c0 F5c1) hZ (hw _ (List.mem_of_getElem? (i := 17) rfl)) (hw _ (List.mem_of_getElem? (i := 2) rfl)) (by decide) (by decide)) q15a q15c (g := (mkF m 78 #[.val (.long q1), .second, .val (.long q2), .second, .val (.long q3), .second, .val (.int p4), .val (.int z2_S0), .val (.ref b4), .val (.int (1 : Int32)), .val (.int z10_S0), .val (.long zz13_S0), .second, .unset, .unset, .unset, .unset, .unset, .unset, .unset, .unset] [(.long q2), (.ref b4)])) rfl (by rw [hml]; rfl) (Steps.refl _) (argsL := [(.long q2)]) (rest := []) (lenOf pd_1 rfl) rfl (by show 2 * 0 + _ ≤ _; exact Nat.le_of_eq rfl) (hb hby at_78) (fun _ _ => ⟨rfl, e14, (by decide : 1 + 0 ≤ _), (by decide : 2 + 0 ≤ _)⟩)
          dsimp only [Pt.U, Pt.locs, Pt.cells, Pt.slots] at X15 l15 y15 z15 st15 hQ15
          subst l15 y15 z15
          obtain ⟨rfl, N15q, K15c, E15c, F15c0, F15c1⟩ := hQ15
          have N15 := Fr.app N14 N15q
          replace X15 : Stand p l e room_1 s m _ below meth c T15 _ 1 2 := X15
          refine own_go (fun t_ k => st15.trans k) ?_
          have K15 : Keep h0 T15.heap [] := K5.trans K15c (allS (Or.inr sz_b4) all0)
          generalize he16 : (f3_last q2 vj6 vi7) = vj16 at F15c0
          generalize he17 : (f3_doubtFrom q2 vj6 vi7) = vi17 at F15c1
          show WP p e below _ (T15.setTop (mkF m 81 #[.val (.long q1), .second, .val (.long q2), .second, .val (.long q3), .second, .val (.int p4), .val (.int z2_S0), .val (.ref b4), .val (.int (1 : Int32)), .val (.int z10_S0), .val (.long zz13_S0), .second, .unset, .unset, .unset, .unset, .unset, .unset, .unset, .unset] [(.int (f3 q2 vj6 vi7))]))
          generalize he18 : (f3 q2 vj6 vi7) = vi18
          show WP p e below _ (T15.setTop (mkF m 81 #[.val (.long q1), .second, .val (.long q2), .second, .val (.long q3), .second, .val (.int p4), .val (.int z2_S0), .val (.ref b4), .val (.int (1 : Int32)), .val (.int z10_S0), .val (.long zz13_S0), .second, .unset, .unset, .unset, .unset, .unset, .unset, .unset, .unset] [(.int vi18)]))
          refine own_go (fun t_ k => XS.istore X15.here hx rfl (hb hby at_81) rfl (l' := #[.val (.long q1), .second, .val (.long q2), .second, .val (.long q3), .second, .val (.int p4), .val (.int z2_S0), .val (.ref b4), .val (.int (1 : Int32)), .val (.int z10_S0), .val (.long zz13_S0), .second, .val (.int vi18), .unset, .unset, .unset, .unset, .unset, .unset, .unset]) rfl k) ?_
          show WP p e below _ (T15.setTop (mkF m 83 #[.val (.long q1), .second, .val (.long q2), .second, .val (.long q3), .second, .val (.int p4), .val (.int z2_S0), .val (.ref b4), .val (.int (1 : Int32)), .val (.int z10_S0), .val (.long zz13_S0), .second, .val (.int vi18), .unset, .unset, .unset, .unset, .unset, .unset, .unset] []))
          refine own_go (fun t_ k => XS.iload X15.here hx rfl (hb hby at_83) rfl k) ?_
          show WP p e below _ (T15.setTop (mkF m 85 #[.val (.long q1), .second, .val (.long q2), .second, .val (.long q3), .second, .val (.int p4), .val (.int z2_S0), .val (.ref b4), .val (.int (1 : Int32)), .val (.int z10_S0), .val (.long zz13_S0), .second, .val (.int vi18), .unset, .unset, .unset, .unset, .unset, .unset, .unset] [(.int p4)]))
          refine own_go (fun t_ k => XS.iconst X15.here hx rfl (hb hby at_85) k) ?_
          show WP p e below _ (T15.setTop (mkF m 86 #[.val (.long q1), .second, .val (.long q2), .second, .val (.long q3), .second, .val (.int p4), .val (.int z2_S0), .val (.ref b4), .val (.int (1 : Int32)), .val (.int z10_S0), .val (.long zz13_S0), .second, .val (.int vi18), .unset, .unset, .unset, .unset, .unset, .unset, .unset] [(.int (2 : Int32)), (.int p4)]))
          refine own_go (fun t_ k => XS.iand X15.here hx rfl (hb hby at_86) rfl k) ?_
          show WP p e below _ (T15.setTop (mkF m 87 #[.val (.long q1), .second, .val (.long q2), .second, .val (.long q3), .second, .val (.int p4), .val (.int z2_S0), .val (.ref b4), .val (.int (1 : Int32)), .val (.int z10_S0), .val (.long zz13_S0), .second, .val (.int vi18), .unset, .unset, .unset, .unset, .unset, .unset, .unset] [(.int (p4 &&& (2 : Int32)))]))
          have J21 : ∀ (T21 : State) (ls21 : List Loc) (X21 : Stand p l e room_1 s m #[(.long q1), (.long q2), (.long q3), (.int p4)] below meth c T21 ls21 1 2) (N21 : Fr n0 ls21) (e21 : T21.heap = T15.heap) (zz20_S0 : Int64) (hzz20_S0 : zz20_S0 = (if (p4 &&& (2 : Int32)) = (0 : Int32) then (zz13_S0 + ((((p4 >>> ((2 : Int32) &&& 31)) &&& (3 : Int32)) - (1 : Int32)).toInt64)) else q3)), WP p e below (GG (Q0 n0) s room_1.cells room_1.slots) (T21.setTop (mkF m 107 #[.val (.long q1), .second, .val (.long q2), .second, .val (.long q3), .second, .val (.int p4), .val (.int z2_S0), .val (.ref b4), .val (.int (1 : Int32)), .val (.int z10_S0), .val (.long zz13_S0), .second, .val (.int vi18), .unset, .unset, .unset, .unset, .unset, .unset, .unset] [(.long zz20_S0)])) := by
            intro T21 ls21 X21 N21 e21 zz20_S0 hzz20_S0
            show WP p e below _ (T21.setTop (mkF m 107 #[.val (.long q1), .second, .val (.long q2), .second, .val (.long q3), .second, .val (.int p4), .val (.int z2_S0), .val (.ref b4), .val (.int (1 : Int32)), .val (.int z10_S0), .val (.long zz13_S0), .second, .val (.int vi18), .unset, .unset, .unset, .unset, .unset, .unset, .unset] [(.long zz20_S0)]))
            refine own_go (fun t_ k => XS.lstore X21.here hx rfl (hb hby at_107) rfl (l' := #[.val (.long q1), .second, .val (.long q2), .second, .val (.long q3), .second, .val (.int p4), .val (.int z2_S0), .val (.ref b4), .val (.int (1 : Int32)), .val (.int z10_S0), .val (.long zz13_S0), .second, .val (.int vi18), .val (.long zz20_S0), .second, .unset, .unset, .unset, .unset, .unset]) rfl k) ?_
            show WP p e below _ (T21.setTop (mkF m 109 #[.val (.long q1), .second, .val (.long q2), .second, .val (.long q3), .second, .val (.int p4), .val (.int z2_S0), .val (.ref b4), .val (.int (1 : Int32)), .val (.int z10_S0), .val (.long zz13_S0), .second, .val (.int vi18), .val (.long zz20_S0), .second, .unset, .unset, .unset, .unset, .unset] []))
            refine own_go (fun t_ k => XS.iload X21.here hx rfl (hb hby at_109) rfl k) ?_
            show WP p e below _ (T21.setTop (mkF m 111 #[.val (.long q1), .second, .val (.long q2), .second, .val (.long q3), .second, .val (.int p4), .val (.int z2_S0), .val (.ref b4), .val (.int (1 : Int32)), .val (.int z10_S0), .val (.long zz13_S0), .second, .val (.int vi18), .val (.long zz20_S0), .second, .unset, .unset, .unset, .unset, .unset] [(.int z2_S0)]))
            have J24 : ∀ (T24 : State) (ls24 : List Loc) (X24 : Stand p l e room_1 s m #[(.long q1), (.long q2), (.long q3), (.int p4)] below meth c T24 ls24 1 2) (N24 : Fr n0 ls24) (e24 : T24.heap = T15.heap) (z23_S0 : Int32) (hz23_S0 : z23_S0 = (if z2_S0 = (0 : Int32) then (1 : Int32) else (if zz13_S0 < zz20_S0 then (1 : Int32) else (0 : Int32)))), WP p e below (GG (Q0 n0) s room_1.cells room_1.slots) (T24.setTop (mkF m 127 #[.val (.long q1), .second, .val (.long q2), .second, .val (.long q3), .second, .val (.int p4), .val (.int z2_S0), .val (.ref b4), .val (.int (1 : Int32)), .val (.int z10_S0), .val (.long zz13_S0), .second, .val (.int vi18), .val (.long zz20_S0), .second, .unset, .unset, .unset, .unset, .unset] [(.int z23_S0)])) := by
              intro T24 ls24 X24 N24 e24 z23_S0 hz23_S0
              show WP p e below _ (T24.setTop (mkF m 127 #[.val (.long q1), .second, .val (.long q2), .second, .val (.long q3), .second, .val (.int p4), .val (.int z2_S0), .val (.ref b4), .val (.int (1 : Int32)), .val (.int z10_S0), .val (.long zz13_S0), .second, .val (.int vi18), .val (.long zz20_S0), .second, .unset, .unset, .unset, .unset, .unset] [(.int z23_S0)]))
              refine own_go (fun t_ k => XS.istore X24.here hx rfl (hb hby at_127) rfl (l' := #[.val (.long q1), .second, .val (.long q2), .second, .val (.long q3), .second, .val (.int p4), .val (.int z2_S0), .val (.ref b4), .val (.int (1 : Int32)), .val (.int z10_S0), .val (.long zz13_S0), .second, .val (.int vi18), .val (.long zz20_S0), .second, .val (.int z23_S0), .unset, .unset, .unset, .unset]) rfl k) ?_
              show WP p e below _ (T24.setTop (mkF m 129 #[.val (.long q1), .second, .val (.long q2), .second, .val (.long q3), .second, .val (.int p4), .val (.int z2_S0), .val (.ref b4), .val (.int (1 : Int32)), .val (.int z10_S0), .val (.long zz13_S0), .second, .val (.int vi18), .val (.long zz20_S0), .second, .val (.int z23_S0), .unset, .unset, .unset, .unset] []))
              refine own_go (fun t_ k => XS.iload X24.here hx rfl (hb hby at_129) rfl k) ?_
              show WP p e below _ (T24.setTop (mkF m 131 #[.val (.long q1), .second, .val (.long q2), .second, .val (.long q3), .second, .val (.int p4), .val (.int z2_S0), .val (.ref b4), .val (.int (1 : Int32)), .val (.int z10_S0), .val (.long zz13_S0), .second, .val (.int vi18), .val (.long zz20_S0), .second, .val (.int z23_S0), .unset, .unset, .unset, .unset] [(.int z23_S0)]))
              have J27 : ∀ (T27 : State) (ls27 : List Loc) (X27 : Stand p l e room_1 s m #[(.long q1), (.long q2), (.long q3), (.int p4)] below meth c T27 ls27 1 2) (N27 : Fr n0 ls27) (e27 : T27.heap = T15.heap) (zz26_S0 : Int64) (hzz26_S0 : zz26_S0 = (if z23_S0 = (0 : Int32) then zz13_S0 else zz20_S0)), WP p e below (GG (Q0 n0) s room_1.cells room_1.slots) (T27.setTop (mkF m 141 #[.val (.long q1), .second, .val (.long q2), .second, .val (.long q3), .second, .val (.int p4), .val (.int z2_S0), .val (.ref b4), .val (.int (1 : Int32)), .val (.int z10_S0), .val (.long zz13_S0), .second, .val (.int vi18), .val (.long zz20_S0), .second, .val (.int z23_S0), .unset, .unset, .unset, .unset] [(.long zz26_S0)])) := by
                intro T27 ls27 X27 N27 e27 zz26_S0 hzz26_S0
                show WP p e below _ (T27.setTop (mkF m 141 #[.val (.long q1), .second, .val (.long q2), .second, .val (.long q3), .second, .val (.int p4), .val (.int z2_S0), .val (.ref b4), .val (.int (1 : Int32)), .val (.int z10_S0), .val (.long zz13_S0), .second, .val (.int vi18), .val (.long zz20_S0), .second, .val (.int z23_S0), .unset, .unset, .unset, .unset] [(.long zz26_S0)]))
                refine own_go (fun t_ k => XS.lstore X27.here hx rfl (hb hby at_141) rfl (l' := #[.val (.long q1), .second, .val (.long q2), .second, .val (.long q3), .second, .val (.int p4), .val (.int z2_S0), .val (.ref b4), .val (.int (1 : Int32)), .val (.int z10_S0), .val (.long zz13_S0), .second, .val (.int vi18), .val (.long zz20_S0), .second, .val (.int z23_S0), .val (.long zz26_S0), .second, .unset, .unset]) rfl k) ?_
                show WP p e below _ (T27.setTop (mkF m 143 #[.val (.long q1), .second, .val (.long q2), .second, .val (.long q3), .second, .val (.int p4), .val (.int z2_S0), .val (.ref b4), .val (.int (1 : Int32)), .val (.int z10_S0), .val (.long zz13_S0), .second, .val (.int vi18), .val (.long zz20_S0), .second, .val (.int z23_S0), .val (.long zz26_S0), .second, .unset, .unset] []))
                refine own_go (fun t_ k => XS.aload X27.here hx rfl (hb hby at_143) rfl rfl k) ?_
                show WP p e below _ (T27.setTop (mkF m 145 #[.val (.long q1), .second, .val (.long q2), .second, .val (.long q3), .second, .val (.int p4), .val (.int z2_S0), .val (.ref b4), .val (.int (1 : Int32)), .val (.int z10_S0), .val (.long zz13_S0), .second, .val (.int vi18), .val (.long zz20_S0), .second, .val (.int z23_S0), .val (.long zz26_S0), .second, .unset, .unset] [(.ref b4)]))
                refine own_go (fun t_ k => XS.lload X27.here hx rfl (hb hby at_145) rfl k) ?_
                show WP p e below _ (T27.setTop (mkF m 147 #[.val (.long q1), .second, .val (.long q2), .second, .val (.long q3), .second, .val (.int p4), .val (.int z2_S0), .val (.ref b4), .val (.int (1 : Int32)), .val (.int z10_S0), .val (.long zz13_S0), .second, .val (.int vi18), .val (.long zz20_S0), .second, .val (.int z23_S0), .val (.long zz26_S0), .second, .unset, .unset] [(.long zz20_S0), (.ref b4)]))
                obtain ⟨cq28, kq28, q28a, q28b, q28c⟩ := isOf (T := T27) hZ e27 E15c
                obtain ⟨_, _, ⟨T28, L28, k28, n28⟩, -, X28, ⟨Lc28, hQ28, l28, y28, z28⟩, st28⟩ := X27.virtualBack hx (y := (⟨"com/example/holdfast/holdfast/PastDamage", "takes", "(J)Z"⟩ : MethodName)) (z := (⟨"com/example/holdfast/holdfast/PastDamage", "takes", "(J)Z"⟩ : MethodName)) hown (mvT hZ (hw _ (List.mem_of_getElem? (i := 13) rfl))) (mvT hZ (hw _ (List.mem_of_getElem? (i := 14) rfl))) (notFace_of_selects (args := #[]) (mvT hZ (hw _ (List.mem_of_getElem? (i := 16) rfl)))) (mvT hZ (hw _ (List.mem_of_getElem? (i := 16) rfl))) (mvT hZ (hw _ (List.mem_of_getElem? (i := 15) rfl))) (by decide) (backOf (W := 0) (rm3 l Z a0 hw [] b4 zz20_S0 vj16 vi17 T15.heap n0 E15c g_b4 F15c0 F15c1) hZ (hw _ (List.mem_of_getElem? (i := 17) rfl)) (hw _ (List.mem_of_getElem? (i := 2) rfl)) (by decide) (by decide)) q28a q28c (g := (mkF m 147 #[.val (.long q1), .second, .val (.long q2), .second, .val (.long q3), .second, .val (.int p4), .val (.int z2_S0), .val (.ref b4), .val (.int (1 : Int32)), .val (.int z10_S0), .val (.long zz13_S0), .second, .val (.int vi18), .val (.long zz20_S0), .second, .val (.int z23_S0), .val (.long zz26_S0), .second, .unset, .unset] [(.long zz20_S0), (.ref b4)])) rfl (by rw [hml]; rfl) (Steps.refl _) (argsL := [(.long zz20_S0)]) (rest := []) (lenOf pd_1 rfl) rfl (by show 2 * 0 + _ ≤ _; exact Nat.le_of_eq rfl) (hb hby at_147) (fun _ _ => ⟨rfl, e27, (by decide : 1 + 0 ≤ _), (by decide : 2 + 0 ≤ _)⟩)
                dsimp only [Pt.U, Pt.locs, Pt.cells, Pt.slots] at X28 l28 y28 z28 st28 hQ28
                subst l28 y28 z28
                obtain ⟨rfl, N28q, K28c, E28c, F28c0, F28c1⟩ := hQ28
                have N28 := Fr.app N27 N28q
                replace X28 : Stand p l e room_1 s m _ below meth c T28 _ 1 2 := X28
                refine own_go (fun t_ k => st28.trans k) ?_
                have K28 : Keep h0 T28.heap [] := K15.trans K28c (allS (Or.inr sz_b4) all0)
                generalize he29 : (f3_last zz20_S0 vj16 vi17) = vj29 at F28c0
                generalize he30 : (f3_doubtFrom zz20_S0 vj16 vi17) = vi30 at F28c1
                show WP p e below _ (T28.setTop (mkF m 150 #[.val (.long q1), .second, .val (.long q2), .second, .val (.long q3), .second, .val (.int p4), .val (.int z2_S0), .val (.ref b4), .val (.int (1 : Int32)), .val (.int z10_S0), .val (.long zz13_S0), .second, .val (.int vi18), .val (.long zz20_S0), .second, .val (.int z23_S0), .val (.long zz26_S0), .second, .unset, .unset] [(.int (f3 zz20_S0 vj16 vi17))]))
                generalize he31 : (f3 zz20_S0 vj16 vi17) = vi31
                show WP p e below _ (T28.setTop (mkF m 150 #[.val (.long q1), .second, .val (.long q2), .second, .val (.long q3), .second, .val (.int p4), .val (.int z2_S0), .val (.ref b4), .val (.int (1 : Int32)), .val (.int z10_S0), .val (.long zz13_S0), .second, .val (.int vi18), .val (.long zz20_S0), .second, .val (.int z23_S0), .val (.long zz26_S0), .second, .unset, .unset] [(.int vi31)]))
                refine own_go (fun t_ k => XS.istore X28.here hx rfl (hb hby at_150) rfl (l' := #[.val (.long q1), .second, .val (.long q2), .second, .val (.long q3), .second, .val (.int p4), .val (.int z2_S0), .val (.ref b4), .val (.int (1 : Int32)), .val (.int z10_S0), .val (.long zz13_S0), .second, .val (.int vi18), .val (.long zz20_S0), .second, .val (.int z23_S0), .val (.long zz26_S0), .second, .val (.int vi31), .unset]) rfl k) ?_
                show WP p e below _ (T28.setTop (mkF m 152 #[.val (.long q1), .second, .val (.long q2), .second, .val (.long q3), .second, .val (.int p4), .val (.int z2_S0), .val (.ref b4), .val (.int (1 : Int32)), .val (.int z10_S0), .val (.long zz13_S0), .second, .val (.int vi18), .val (.long zz20_S0), .second, .val (.int z23_S0), .val (.long zz26_S0), .second, .val (.int vi31), .unset] []))
                refine own_go (fun t_ k => XS.aload X28.here hx rfl (hb hby at_152) rfl rfl k) ?_
                show WP p e below _ (T28.setTop (mkF m 154 #[.val (.long q1), .second, .val (.long q2), .second, .val (.long q3), .second, .val (.int p4), .val (.int z2_S0), .val (.ref b4), .val (.int (1 : Int32)), .val (.int z10_S0), .val (.long zz13_S0), .second, .val (.int vi18), .val (.long zz20_S0), .second, .val (.int z23_S0), .val (.long zz26_S0), .second, .val (.int vi31), .unset] [(.ref b4)]))
                refine own_go (fun t_ k => XS.lload X28.here hx rfl (hb hby at_154) rfl k) ?_
                show WP p e below _ (T28.setTop (mkF m 156 #[.val (.long q1), .second, .val (.long q2), .second, .val (.long q3), .second, .val (.int p4), .val (.int z2_S0), .val (.ref b4), .val (.int (1 : Int32)), .val (.int z10_S0), .val (.long zz13_S0), .second, .val (.int vi18), .val (.long zz20_S0), .second, .val (.int z23_S0), .val (.long zz26_S0), .second, .val (.int vi31), .unset] [(.long zz26_S0), (.ref b4)]))
                refine own_go (fun t_ k => X28.ldc2Long hx hown (mvT hZ (hw _ (List.mem_of_getElem? (i := 18) rfl))) (g := (mkF m 156 #[.val (.long q1), .second, .val (.long q2), .second, .val (.long q3), .second, .val (.int p4), .val (.int z2_S0), .val (.ref b4), .val (.int (1 : Int32)), .val (.int z10_S0), .val (.long zz13_S0), .second, .val (.int vi18), .val (.long zz20_S0), .second, .val (.int z23_S0), .val (.long zz26_S0), .second, .val (.int vi31), .unset] [(.long zz26_S0), (.ref b4)])) rfl (hb hby at_156) _ k) ?_
                show WP p e below _ (T28.setTop (mkF m 159 #[.val (.long q1), .second, .val (.long q2), .second, .val (.long q3), .second, .val (.int p4), .val (.int z2_S0), .val (.ref b4), .val (.int (1 : Int32)), .val (.int z10_S0), .val (.long zz13_S0), .second, .val (.int vi18), .val (.long zz20_S0), .second, .val (.int z23_S0), .val (.long zz26_S0), .second, .val (.int vi31), .unset] [(.long (2 : Int64)), (.long zz26_S0), (.ref b4)]))
                refine own_go (fun t_ k => XS.ladd X28.here hx rfl (hb hby at_159) rfl k) ?_
                show WP p e below _ (T28.setTop (mkF m 160 #[.val (.long q1), .second, .val (.long q2), .second, .val (.long q3), .second, .val (.int p4), .val (.int z2_S0), .val (.ref b4), .val (.int (1 : Int32)), .val (.int z10_S0), .val (.long zz13_S0), .second, .val (.int vi18), .val (.long zz20_S0), .second, .val (.int z23_S0), .val (.long zz26_S0), .second, .val (.int vi31), .unset] [(.long (zz26_S0 + (2 : Int64))), (.ref b4)]))
                refine own_go (fun t_ k => XS.iconst X28.here hx rfl (hb hby at_160) k) ?_
                show WP p e below _ (T28.setTop (mkF m 161 #[.val (.long q1), .second, .val (.long q2), .second, .val (.long q3), .second, .val (.int p4), .val (.int z2_S0), .val (.ref b4), .val (.int (1 : Int32)), .val (.int z10_S0), .val (.long zz13_S0), .second, .val (.int vi18), .val (.long zz20_S0), .second, .val (.int z23_S0), .val (.long zz26_S0), .second, .val (.int vi31), .unset] [(.int (0 : Int32)), (.long (zz26_S0 + (2 : Int64))), (.ref b4)]))
                obtain ⟨cq32, kq32, q32a, q32b, q32c⟩ := isOf (T := T28) hZ rfl E28c
                obtain ⟨_, _, ⟨T32, L32, k32, n32⟩, -, X32, ⟨Lc32, hQ32, l32, y32, z32⟩, st32⟩ := X28.virtualBack hx (y := (⟨"com/example/holdfast/holdfast/PastDamage", "picksUpAt", "(JI)Z"⟩ : MethodName)) (z := (⟨"com/example/holdfast/holdfast/PastDamage", "picksUpAt", "(JI)Z"⟩ : MethodName)) hown (mvT hZ (hw _ (List.mem_of_getElem? (i := 19) rfl))) (mvT hZ (hw _ (List.mem_of_getElem? (i := 20) rfl))) (notFace_of_selects (args := #[]) (mvT hZ (hw _ (List.mem_of_getElem? (i := 22) rfl)))) (mvT hZ (hw _ (List.mem_of_getElem? (i := 22) rfl))) (mvT hZ (hw _ (List.mem_of_getElem? (i := 21) rfl))) (by decide) (backOf (W := 0) (rm4 l Z a0 hw [] b4 (zz26_S0 + (2 : Int64)) (0 : Int32) vj29 vi30 T28.heap n0 E28c g_b4 F28c0 F28c1) hZ (hw _ (List.mem_of_getElem? (i := 23) rfl)) (hw _ (List.mem_of_getElem? (i := 2) rfl)) (by decide) (by decide)) q32a q32c (g := (mkF m 161 #[.val (.long q1), .second, .val (.long q2), .second, .val (.long q3), .second, .val (.int p4), .val (.int z2_S0), .val (.ref b4), .val (.int (1 : Int32)), .val (.int z10_S0), .val (.long zz13_S0), .second, .val (.int vi18), .val (.long zz20_S0), .second, .val (.int z23_S0), .val (.long zz26_S0), .second, .val (.int vi31), .unset] [(.int (0 : Int32)), (.long (zz26_S0 + (2 : Int64))), (.ref b4)])) rfl (by rw [hml]; rfl) (Steps.refl _) (argsL := [(.long (zz26_S0 + (2 : Int64))), (.int (0 : Int32))]) (rest := []) (lenOf pd_2 rfl) rfl (by show 2 * 0 + _ ≤ _; exact Nat.le_of_eq rfl) (hb hby at_161) (fun _ _ => ⟨rfl, rfl, (by decide : 1 + 0 ≤ _), (by decide : 2 + 0 ≤ _)⟩)
                dsimp only [Pt.U, Pt.locs, Pt.cells, Pt.slots] at X32 l32 y32 z32 st32 hQ32
                subst l32 y32 z32
                obtain ⟨rfl, N32q, K32c, E32c, F32c0, F32c1⟩ := hQ32
                have N32 := Fr.app N28 N32q
                replace X32 : Stand p l e room_1 s m _ below meth c T32 _ 1 2 := X32
                refine own_go (fun t_ k => st32.trans k) ?_
                have K32 : Keep h0 T32.heap [] := K28.trans K32c (allS (Or.inr sz_b4) all0)
                generalize he33 : (f4_last (zz26_S0 + (2 : Int64)) (0 : Int32) vj29 vi30) = vj33 at F32c0
                generalize he34 : (f4_doubtFrom (zz26_S0 + (2 : Int64)) (0 : Int32) vj29 vi30) = vi34 at F32c1
                show WP p e below _ (T32.setTop (mkF m 164 #[.val (.long q1), .second, .val (.long q2), .second, .val (.long q3), .second, .val (.int p4), .val (.int z2_S0), .val (.ref b4), .val (.int (1 : Int32)), .val (.int z10_S0), .val (.long zz13_S0), .second, .val (.int vi18), .val (.long zz20_S0), .second, .val (.int z23_S0), .val (.long zz26_S0), .second, .val (.int vi31), .unset] [(.int (f4 (zz26_S0 + (2 : Int64)) (0 : Int32) vj29 vi30))]))
                generalize he35 : (f4 (zz26_S0 + (2 : Int64)) (0 : Int32) vj29 vi30) = vi35
                show WP p e below _ (T32.setTop (mkF m 164 #[.val (.long q1), .second, .val (.long q2), .second, .val (.long q3), .second, .val (.int p4), .val (.int z2_S0), .val (.ref b4), .val (.int (1 : Int32)), .val (.int z10_S0), .val (.long zz13_S0), .second, .val (.int vi18), .val (.long zz20_S0), .second, .val (.int z23_S0), .val (.long zz26_S0), .second, .val (.int vi31), .unset] [(.int vi35)]))
                refine own_go (fun t_ k => XS.istore X32.here hx rfl (hb hby at_164) rfl (l' := #[.val (.long q1), .second, .val (.long q2), .second, .val (.long q3), .second, .val (.int p4), .val (.int z2_S0), .val (.ref b4), .val (.int (1 : Int32)), .val (.int z10_S0), .val (.long zz13_S0), .second, .val (.int vi18), .val (.long zz20_S0), .second, .val (.int z23_S0), .val (.long zz26_S0), .second, .val (.int vi31), .val (.int vi35)]) rfl k) ?_
                show WP p e below _ (T32.setTop (mkF m 166 #[.val (.long q1), .second, .val (.long q2), .second, .val (.long q3), .second, .val (.int p4), .val (.int z2_S0), .val (.ref b4), .val (.int (1 : Int32)), .val (.int z10_S0), .val (.long zz13_S0), .second, .val (.int vi18), .val (.long zz20_S0), .second, .val (.int z23_S0), .val (.long zz26_S0), .second, .val (.int vi31), .val (.int vi35)] []))
                refine own_go (fun t_ k => XS.iload X32.here hx rfl (hb hby at_166) rfl k) ?_
                show WP p e below _ (T32.setTop (mkF m 168 #[.val (.long q1), .second, .val (.long q2), .second, .val (.long q3), .second, .val (.int p4), .val (.int z2_S0), .val (.ref b4), .val (.int (1 : Int32)), .val (.int z10_S0), .val (.long zz13_S0), .second, .val (.int vi18), .val (.long zz20_S0), .second, .val (.int z23_S0), .val (.long zz26_S0), .second, .val (.int vi31), .val (.int vi35)] [(.int (1 : Int32))]))
                have hc168_36 : ¬ ((1 : Int32) = (0 : Int32)) := by decide
                refine own_go (fun t_ k => XS.ifNo X32.here hx rfl (hb hby at_168) rfl ((if0 _ _).trans (feq hc168_36).1) k) ?_
                show WP p e below _ (T32.setTop (mkF m 171 #[.val (.long q1), .second, .val (.long q2), .second, .val (.long q3), .second, .val (.int p4), .val (.int z2_S0), .val (.ref b4), .val (.int (1 : Int32)), .val (.int z10_S0), .val (.long zz13_S0), .second, .val (.int vi18), .val (.long zz20_S0), .second, .val (.int z23_S0), .val (.long zz26_S0), .second, .val (.int vi31), .val (.int vi35)] []))
                refine own_go (fun t_ k => XS.iload X32.here hx rfl (hb hby at_171) rfl k) ?_
                show WP p e below _ (T32.setTop (mkF m 173 #[.val (.long q1), .second, .val (.long q2), .second, .val (.long q3), .second, .val (.int p4), .val (.int z2_S0), .val (.ref b4), .val (.int (1 : Int32)), .val (.int z10_S0), .val (.long zz13_S0), .second, .val (.int vi18), .val (.long zz20_S0), .second, .val (.int z23_S0), .val (.long zz26_S0), .second, .val (.int vi31), .val (.int vi35)] [(.int vi18)]))
                refine own_go (fun t_ k => XS.iload X32.here hx rfl (hb hby at_173) rfl k) ?_
                show WP p e below _ (T32.setTop (mkF m 175 #[.val (.long q1), .second, .val (.long q2), .second, .val (.long q3), .second, .val (.int p4), .val (.int z2_S0), .val (.ref b4), .val (.int (1 : Int32)), .val (.int z10_S0), .val (.long zz13_S0), .second, .val (.int vi18), .val (.long zz20_S0), .second, .val (.int z23_S0), .val (.long zz26_S0), .second, .val (.int vi31), .val (.int vi35)] [(.int z10_S0), (.int vi18)]))
                have J39 : ∀ (T39 : State) (ls39 : List Loc) (X39 : Stand p l e room_1 s m #[(.long q1), (.long q2), (.long q3), (.int p4)] below meth c T39 ls39 1 2) (N39 : Fr n0 ls39) (e39 : T39.heap = T32.heap) (z38_S0 : Int32) (hz38_S0 : z38_S0 = (if vi18 = z10_S0 then (if vi31 = z23_S0 then (if vi35 = (0 : Int32) then (0 : Int32) else (1 : Int32)) else (0 : Int32)) else (0 : Int32))), WP p e below (GG (Q0 n0) s room_1.cells room_1.slots) (T39.setTop (mkF m 195 #[.val (.long q1), .second, .val (.long q2), .second, .val (.long q3), .second, .val (.int p4), .val (.int z2_S0), .val (.ref b4), .val (.int (1 : Int32)), .val (.int z10_S0), .val (.long zz13_S0), .second, .val (.int vi18), .val (.long zz20_S0), .second, .val (.int z23_S0), .val (.long zz26_S0), .second, .val (.int vi31), .val (.int vi35)] [(.int z38_S0)])) := by
                  intro T39 ls39 X39 N39 e39 z38_S0 hz38_S0
                  show WP p e below _ (T39.setTop (mkF m 195 #[.val (.long q1), .second, .val (.long q2), .second, .val (.long q3), .second, .val (.int p4), .val (.int z2_S0), .val (.ref b4), .val (.int (1 : Int32)), .val (.int z10_S0), .val (.long zz13_S0), .second, .val (.int vi18), .val (.long zz20_S0), .second, .val (.int z23_S0), .val (.long zz26_S0), .second, .val (.int vi31), .val (.int vi35)] [(.int z38_S0)]))
                  exact own_retZ X39 hx Bd.notSynchronized Bd.returns (hb hby at_195) (by rw [hz38_S0]; (repeat' split); all_goals first | exact Or.inl rfl | exact Or.inr rfl) (show Q0 n0 _ _ _ from ⟨congrArg (fun z => some (Value.int z)) (own_law_1 hz2_S0 he6 he7 hz10_S0 hzz13_S0 he16 he17 he18 hzz20_S0 hz23_S0 hzz26_S0 he29 he30 he31 he33 he34 he35 hz38_S0 hc29_8), N39⟩) (by decide) (by decide)
                by_cases hc175_37 : vi18 = z10_S0
                · refine own_go (fun t_ k => XS.icmpNo X32.here hx rfl (hb hby at_175) rfl (teq hc175_37).2 k) ?_
                  show WP p e below _ (T32.setTop (mkF m 178 #[.val (.long q1), .second, .val (.long q2), .second, .val (.long q3), .second, .val (.int p4), .val (.int z2_S0), .val (.ref b4), .val (.int (1 : Int32)), .val (.int z10_S0), .val (.long zz13_S0), .second, .val (.int vi18), .val (.long zz20_S0), .second, .val (.int z23_S0), .val (.long zz26_S0), .second, .val (.int vi31), .val (.int vi35)] []))
                  refine own_go (fun t_ k => XS.iload X32.here hx rfl (hb hby at_178) rfl k) ?_
                  show WP p e below _ (T32.setTop (mkF m 180 #[.val (.long q1), .second, .val (.long q2), .second, .val (.long q3), .second, .val (.int p4), .val (.int z2_S0), .val (.ref b4), .val (.int (1 : Int32)), .val (.int z10_S0), .val (.long zz13_S0), .second, .val (.int vi18), .val (.long zz20_S0), .second, .val (.int z23_S0), .val (.long zz26_S0), .second, .val (.int vi31), .val (.int vi35)] [(.int vi31)]))
                  refine own_go (fun t_ k => XS.iload X32.here hx rfl (hb hby at_180) rfl k) ?_
                  show WP p e below _ (T32.setTop (mkF m 182 #[.val (.long q1), .second, .val (.long q2), .second, .val (.long q3), .second, .val (.int p4), .val (.int z2_S0), .val (.ref b4), .val (.int (1 : Int32)), .val (.int z10_S0), .val (.long zz13_S0), .second, .val (.int vi18), .val (.long zz20_S0), .second, .val (.int z23_S0), .val (.long zz26_S0), .second, .val (.int vi31), .val (.int vi35)] [(.int z23_S0), (.int vi31)]))
                  by_cases hc182_40 : vi31 = z23_S0
                  · refine own_go (fun t_ k => XS.icmpNo X32.here hx rfl (hb hby at_182) rfl (teq hc182_40).2 k) ?_
                    show WP p e below _ (T32.setTop (mkF m 185 #[.val (.long q1), .second, .val (.long q2), .second, .val (.long q3), .second, .val (.int p4), .val (.int z2_S0), .val (.ref b4), .val (.int (1 : Int32)), .val (.int z10_S0), .val (.long zz13_S0), .second, .val (.int vi18), .val (.long zz20_S0), .second, .val (.int z23_S0), .val (.long zz26_S0), .second, .val (.int vi31), .val (.int vi35)] []))
                    refine own_go (fun t_ k => XS.iload X32.here hx rfl (hb hby at_185) rfl k) ?_
                    show WP p e below _ (T32.setTop (mkF m 187 #[.val (.long q1), .second, .val (.long q2), .second, .val (.long q3), .second, .val (.int p4), .val (.int z2_S0), .val (.ref b4), .val (.int (1 : Int32)), .val (.int z10_S0), .val (.long zz13_S0), .second, .val (.int vi18), .val (.long zz20_S0), .second, .val (.int z23_S0), .val (.long zz26_S0), .second, .val (.int vi31), .val (.int vi35)] [(.int vi35)]))
                    by_cases hc187_41 : vi35 = (0 : Int32)
                    · refine own_go (fun t_ k => XS.ifYes X32.here hx rfl (pc0 := 187) (pc' := 194) rfl (hb hby at_187) rfl ((if0 _ _).trans (teq hc187_41).1) (by decide) (by decide) k) ?_
                      show WP p e below _ (T32.setTop (mkF m 194 #[.val (.long q1), .second, .val (.long q2), .second, .val (.long q3), .second, .val (.int p4), .val (.int z2_S0), .val (.ref b4), .val (.int (1 : Int32)), .val (.int z10_S0), .val (.long zz13_S0), .second, .val (.int vi18), .val (.long zz20_S0), .second, .val (.int z23_S0), .val (.long zz26_S0), .second, .val (.int vi31), .val (.int vi35)] []))
                      refine own_go (fun t_ k => XS.iconst X32.here hx rfl (hb hby at_194) k) ?_
                      show WP p e below _ (T32.setTop (mkF m 195 #[.val (.long q1), .second, .val (.long q2), .second, .val (.long q3), .second, .val (.int p4), .val (.int z2_S0), .val (.ref b4), .val (.int (1 : Int32)), .val (.int z10_S0), .val (.long zz13_S0), .second, .val (.int vi18), .val (.long zz20_S0), .second, .val (.int z23_S0), .val (.long zz26_S0), .second, .val (.int vi31), .val (.int vi35)] [(.int (0 : Int32))]))
                      exact J39 T32 _ X32 N32 rfl _ (by rw [if_pos hc175_37, if_pos hc182_40, if_pos hc187_41])
                    · refine own_go (fun t_ k => XS.ifNo X32.here hx rfl (hb hby at_187) rfl ((if0 _ _).trans (feq hc187_41).1) k) ?_
                      show WP p e below _ (T32.setTop (mkF m 190 #[.val (.long q1), .second, .val (.long q2), .second, .val (.long q3), .second, .val (.int p4), .val (.int z2_S0), .val (.ref b4), .val (.int (1 : Int32)), .val (.int z10_S0), .val (.long zz13_S0), .second, .val (.int vi18), .val (.long zz20_S0), .second, .val (.int z23_S0), .val (.long zz26_S0), .second, .val (.int vi31), .val (.int vi35)] []))
                      refine own_go (fun t_ k => XS.iconst X32.here hx rfl (hb hby at_190) k) ?_
                      show WP p e below _ (T32.setTop (mkF m 191 #[.val (.long q1), .second, .val (.long q2), .second, .val (.long q3), .second, .val (.int p4), .val (.int z2_S0), .val (.ref b4), .val (.int (1 : Int32)), .val (.int z10_S0), .val (.long zz13_S0), .second, .val (.int vi18), .val (.long zz20_S0), .second, .val (.int z23_S0), .val (.long zz26_S0), .second, .val (.int vi31), .val (.int vi35)] [(.int (1 : Int32))]))
                      refine own_go (fun t_ k => XS.goto X32.here hx rfl (pc0 := 191) (pc' := 195) rfl (hb hby at_191) (by decide) (by decide) k) ?_
                      show WP p e below _ (T32.setTop (mkF m 195 #[.val (.long q1), .second, .val (.long q2), .second, .val (.long q3), .second, .val (.int p4), .val (.int z2_S0), .val (.ref b4), .val (.int (1 : Int32)), .val (.int z10_S0), .val (.long zz13_S0), .second, .val (.int vi18), .val (.long zz20_S0), .second, .val (.int z23_S0), .val (.long zz26_S0), .second, .val (.int vi31), .val (.int vi35)] [(.int (1 : Int32))]))
                      exact J39 T32 _ X32 N32 rfl _ (by rw [if_pos hc175_37, if_pos hc182_40, if_neg hc187_41])
                  · refine own_go (fun t_ k => XS.icmpYes X32.here hx rfl (pc0 := 182) (pc' := 194) rfl (hb hby at_182) rfl (feq hc182_40).2 (by decide) (by decide) k) ?_
                    show WP p e below _ (T32.setTop (mkF m 194 #[.val (.long q1), .second, .val (.long q2), .second, .val (.long q3), .second, .val (.int p4), .val (.int z2_S0), .val (.ref b4), .val (.int (1 : Int32)), .val (.int z10_S0), .val (.long zz13_S0), .second, .val (.int vi18), .val (.long zz20_S0), .second, .val (.int z23_S0), .val (.long zz26_S0), .second, .val (.int vi31), .val (.int vi35)] []))
                    refine own_go (fun t_ k => XS.iconst X32.here hx rfl (hb hby at_194) k) ?_
                    show WP p e below _ (T32.setTop (mkF m 195 #[.val (.long q1), .second, .val (.long q2), .second, .val (.long q3), .second, .val (.int p4), .val (.int z2_S0), .val (.ref b4), .val (.int (1 : Int32)), .val (.int z10_S0), .val (.long zz13_S0), .second, .val (.int vi18), .val (.long zz20_S0), .second, .val (.int z23_S0), .val (.long zz26_S0), .second, .val (.int vi31), .val (.int vi35)] [(.int (0 : Int32))]))
                    exact J39 T32 _ X32 N32 rfl _ (by rw [if_pos hc175_37, if_neg hc182_40])
                · refine own_go (fun t_ k => XS.icmpYes X32.here hx rfl (pc0 := 175) (pc' := 194) rfl (hb hby at_175) rfl (feq hc175_37).2 (by decide) (by decide) k) ?_
                  show WP p e below _ (T32.setTop (mkF m 194 #[.val (.long q1), .second, .val (.long q2), .second, .val (.long q3), .second, .val (.int p4), .val (.int z2_S0), .val (.ref b4), .val (.int (1 : Int32)), .val (.int z10_S0), .val (.long zz13_S0), .second, .val (.int vi18), .val (.long zz20_S0), .second, .val (.int z23_S0), .val (.long zz26_S0), .second, .val (.int vi31), .val (.int vi35)] []))
                  refine own_go (fun t_ k => XS.iconst X32.here hx rfl (hb hby at_194) k) ?_
                  show WP p e below _ (T32.setTop (mkF m 195 #[.val (.long q1), .second, .val (.long q2), .second, .val (.long q3), .second, .val (.int p4), .val (.int z2_S0), .val (.ref b4), .val (.int (1 : Int32)), .val (.int z10_S0), .val (.long zz13_S0), .second, .val (.int vi18), .val (.long zz20_S0), .second, .val (.int z23_S0), .val (.long zz26_S0), .second, .val (.int vi31), .val (.int vi35)] [(.int (0 : Int32))]))
                  exact J39 T32 _ X32 N32 rfl _ (by rw [if_neg hc175_37])
              by_cases hc131_25 : z23_S0 = (0 : Int32)
              · refine own_go (fun t_ k => XS.ifYes X24.here hx rfl (pc0 := 131) (pc' := 139) rfl (hb hby at_131) rfl ((if0 _ _).trans (teq hc131_25).1) (by decide) (by decide) k) ?_
                show WP p e below _ (T24.setTop (mkF m 139 #[.val (.long q1), .second, .val (.long q2), .second, .val (.long q3), .second, .val (.int p4), .val (.int z2_S0), .val (.ref b4), .val (.int (1 : Int32)), .val (.int z10_S0), .val (.long zz13_S0), .second, .val (.int vi18), .val (.long zz20_S0), .second, .val (.int z23_S0), .unset, .unset, .unset, .unset] []))
                refine own_go (fun t_ k => XS.lload X24.here hx rfl (hb hby at_139) rfl k) ?_
                show WP p e below _ (T24.setTop (mkF m 141 #[.val (.long q1), .second, .val (.long q2), .second, .val (.long q3), .second, .val (.int p4), .val (.int z2_S0), .val (.ref b4), .val (.int (1 : Int32)), .val (.int z10_S0), .val (.long zz13_S0), .second, .val (.int vi18), .val (.long zz20_S0), .second, .val (.int z23_S0), .unset, .unset, .unset, .unset] [(.long zz13_S0)]))
                exact J27 T24 _ X24 N24 e24 _ (by rw [if_pos hc131_25])
              · refine own_go (fun t_ k => XS.ifNo X24.here hx rfl (hb hby at_131) rfl ((if0 _ _).trans (feq hc131_25).1) k) ?_
                show WP p e below _ (T24.setTop (mkF m 134 #[.val (.long q1), .second, .val (.long q2), .second, .val (.long q3), .second, .val (.int p4), .val (.int z2_S0), .val (.ref b4), .val (.int (1 : Int32)), .val (.int z10_S0), .val (.long zz13_S0), .second, .val (.int vi18), .val (.long zz20_S0), .second, .val (.int z23_S0), .unset, .unset, .unset, .unset] []))
                refine own_go (fun t_ k => XS.lload X24.here hx rfl (hb hby at_134) rfl k) ?_
                show WP p e below _ (T24.setTop (mkF m 136 #[.val (.long q1), .second, .val (.long q2), .second, .val (.long q3), .second, .val (.int p4), .val (.int z2_S0), .val (.ref b4), .val (.int (1 : Int32)), .val (.int z10_S0), .val (.long zz13_S0), .second, .val (.int vi18), .val (.long zz20_S0), .second, .val (.int z23_S0), .unset, .unset, .unset, .unset] [(.long zz20_S0)]))
                refine own_go (fun t_ k => XS.goto X24.here hx rfl (pc0 := 136) (pc' := 141) rfl (hb hby at_136) (by decide) (by decide) k) ?_
                show WP p e below _ (T24.setTop (mkF m 141 #[.val (.long q1), .second, .val (.long q2), .second, .val (.long q3), .second, .val (.int p4), .val (.int z2_S0), .val (.ref b4), .val (.int (1 : Int32)), .val (.int z10_S0), .val (.long zz13_S0), .second, .val (.int vi18), .val (.long zz20_S0), .second, .val (.int z23_S0), .unset, .unset, .unset, .unset] [(.long zz20_S0)]))
                exact J27 T24 _ X24 N24 e24 _ (by rw [if_neg hc131_25])
            by_cases hc111_22 : z2_S0 = (0 : Int32)
            · refine own_go (fun t_ k => XS.ifYes X21.here hx rfl (pc0 := 111) (pc' := 122) rfl (hb hby at_111) rfl ((if0 _ _).trans (teq hc111_22).1) (by decide) (by decide) k) ?_
              show WP p e below _ (T21.setTop (mkF m 122 #[.val (.long q1), .second, .val (.long q2), .second, .val (.long q3), .second, .val (.int p4), .val (.int z2_S0), .val (.ref b4), .val (.int (1 : Int32)), .val (.int z10_S0), .val (.long zz13_S0), .second, .val (.int vi18), .val (.long zz20_S0), .second, .unset, .unset, .unset, .unset, .unset] []))
              refine own_go (fun t_ k => XS.iconst X21.here hx rfl (hb hby at_122) k) ?_
              show WP p e below _ (T21.setTop (mkF m 123 #[.val (.long q1), .second, .val (.long q2), .second, .val (.long q3), .second, .val (.int p4), .val (.int z2_S0), .val (.ref b4), .val (.int (1 : Int32)), .val (.int z10_S0), .val (.long zz13_S0), .second, .val (.int vi18), .val (.long zz20_S0), .second, .unset, .unset, .unset, .unset, .unset] [(.int (1 : Int32))]))
              refine own_go (fun t_ k => XS.goto X21.here hx rfl (pc0 := 123) (pc' := 127) rfl (hb hby at_123) (by decide) (by decide) k) ?_
              show WP p e below _ (T21.setTop (mkF m 127 #[.val (.long q1), .second, .val (.long q2), .second, .val (.long q3), .second, .val (.int p4), .val (.int z2_S0), .val (.ref b4), .val (.int (1 : Int32)), .val (.int z10_S0), .val (.long zz13_S0), .second, .val (.int vi18), .val (.long zz20_S0), .second, .unset, .unset, .unset, .unset, .unset] [(.int (1 : Int32))]))
              exact J24 T21 _ X21 N21 e21 _ (by rw [if_pos hc111_22])
            · refine own_go (fun t_ k => XS.ifNo X21.here hx rfl (hb hby at_111) rfl ((if0 _ _).trans (feq hc111_22).1) k) ?_
              show WP p e below _ (T21.setTop (mkF m 114 #[.val (.long q1), .second, .val (.long q2), .second, .val (.long q3), .second, .val (.int p4), .val (.int z2_S0), .val (.ref b4), .val (.int (1 : Int32)), .val (.int z10_S0), .val (.long zz13_S0), .second, .val (.int vi18), .val (.long zz20_S0), .second, .unset, .unset, .unset, .unset, .unset] []))
              refine own_go (fun t_ k => XS.lload X21.here hx rfl (hb hby at_114) rfl k) ?_
              show WP p e below _ (T21.setTop (mkF m 116 #[.val (.long q1), .second, .val (.long q2), .second, .val (.long q3), .second, .val (.int p4), .val (.int z2_S0), .val (.ref b4), .val (.int (1 : Int32)), .val (.int z10_S0), .val (.long zz13_S0), .second, .val (.int vi18), .val (.long zz20_S0), .second, .unset, .unset, .unset, .unset, .unset] [(.long zz20_S0)]))
              refine own_go (fun t_ k => XS.lload X21.here hx rfl (hb hby at_116) rfl k) ?_
              show WP p e below _ (T21.setTop (mkF m 118 #[.val (.long q1), .second, .val (.long q2), .second, .val (.long q3), .second, .val (.int p4), .val (.int z2_S0), .val (.ref b4), .val (.int (1 : Int32)), .val (.int z10_S0), .val (.long zz13_S0), .second, .val (.int vi18), .val (.long zz20_S0), .second, .unset, .unset, .unset, .unset, .unset] [(.long zz13_S0), (.long zz20_S0)]))
              refine own_go (fun t_ k => XS.lcmp X21.here hx rfl (hb hby at_118) rfl k) ?_
              show WP p e below _ (T21.setTop (mkF m 119 #[.val (.long q1), .second, .val (.long q2), .second, .val (.long q3), .second, .val (.int p4), .val (.int z2_S0), .val (.ref b4), .val (.int (1 : Int32)), .val (.int z10_S0), .val (.long zz13_S0), .second, .val (.int vi18), .val (.long zz20_S0), .second, .unset, .unset, .unset, .unset, .unset] [(.int (lcmpW zz20_S0 zz13_S0))]))
              by_cases hc119_42 : zz13_S0 < zz20_S0
              · refine own_go (fun t_ k => XS.ifNo X21.here hx rfl (hb hby at_119) rfl ((if0 _ _).trans (tlt ((lw_gt _ _).mpr hc119_42)).2.2.2) k) ?_
                show WP p e below _ (T21.setTop (mkF m 122 #[.val (.long q1), .second, .val (.long q2), .second, .val (.long q3), .second, .val (.int p4), .val (.int z2_S0), .val (.ref b4), .val (.int (1 : Int32)), .val (.int z10_S0), .val (.long zz13_S0), .second, .val (.int vi18), .val (.long zz20_S0), .second, .unset, .unset, .unset, .unset, .unset] []))
                refine own_go (fun t_ k => XS.iconst X21.here hx rfl (hb hby at_122) k) ?_
                show WP p e below _ (T21.setTop (mkF m 123 #[.val (.long q1), .second, .val (.long q2), .second, .val (.long q3), .second, .val (.int p4), .val (.int z2_S0), .val (.ref b4), .val (.int (1 : Int32)), .val (.int z10_S0), .val (.long zz13_S0), .second, .val (.int vi18), .val (.long zz20_S0), .second, .unset, .unset, .unset, .unset, .unset] [(.int (1 : Int32))]))
                refine own_go (fun t_ k => XS.goto X21.here hx rfl (pc0 := 123) (pc' := 127) rfl (hb hby at_123) (by decide) (by decide) k) ?_
                show WP p e below _ (T21.setTop (mkF m 127 #[.val (.long q1), .second, .val (.long q2), .second, .val (.long q3), .second, .val (.int p4), .val (.int z2_S0), .val (.ref b4), .val (.int (1 : Int32)), .val (.int z10_S0), .val (.long zz13_S0), .second, .val (.int vi18), .val (.long zz20_S0), .second, .unset, .unset, .unset, .unset, .unset] [(.int (1 : Int32))]))
                exact J24 T21 _ X21 N21 e21 _ (by rw [if_neg hc111_22, if_pos hc119_42])
              · refine own_go (fun t_ k => XS.ifYes X21.here hx rfl (pc0 := 119) (pc' := 126) rfl (hb hby at_119) rfl ((if0 _ _).trans (flt (mt (lw_gt _ _).mp hc119_42)).2.2.2) (by decide) (by decide) k) ?_
                show WP p e below _ (T21.setTop (mkF m 126 #[.val (.long q1), .second, .val (.long q2), .second, .val (.long q3), .second, .val (.int p4), .val (.int z2_S0), .val (.ref b4), .val (.int (1 : Int32)), .val (.int z10_S0), .val (.long zz13_S0), .second, .val (.int vi18), .val (.long zz20_S0), .second, .unset, .unset, .unset, .unset, .unset] []))
                refine own_go (fun t_ k => XS.iconst X21.here hx rfl (hb hby at_126) k) ?_
                show WP p e below _ (T21.setTop (mkF m 127 #[.val (.long q1), .second, .val (.long q2), .second, .val (.long q3), .second, .val (.int p4), .val (.int z2_S0), .val (.ref b4), .val (.int (1 : Int32)), .val (.int z10_S0), .val (.long zz13_S0), .second, .val (.int vi18), .val (.long zz20_S0), .second, .unset, .unset, .unset, .unset, .unset] [(.int (0 : Int32))]))
                exact J24 T21 _ X21 N21 e21 _ (by rw [if_neg hc111_22, if_neg hc119_42])
          by_cases hc87_19 : (p4 &&& (2 : Int32)) = (0 : Int32)
          · refine own_go (fun t_ k => XS.ifYes X15.here hx rfl (pc0 := 87) (pc' := 95) rfl (hb hby at_87) rfl ((if0 _ _).trans (teq hc87_19).1) (by decide) (by decide) k) ?_
            show WP p e below _ (T15.setTop (mkF m 95 #[.val (.long q1), .second, .val (.long q2), .second, .val (.long q3), .second, .val (.int p4), .val (.int z2_S0), .val (.ref b4), .val (.int (1 : Int32)), .val (.int z10_S0), .val (.long zz13_S0), .second, .val (.int vi18), .unset, .unset, .unset, .unset, .unset, .unset, .unset] []))
            refine own_go (fun t_ k => XS.lload X15.here hx rfl (hb hby at_95) rfl k) ?_
            show WP p e below _ (T15.setTop (mkF m 97 #[.val (.long q1), .second, .val (.long q2), .second, .val (.long q3), .second, .val (.int p4), .val (.int z2_S0), .val (.ref b4), .val (.int (1 : Int32)), .val (.int z10_S0), .val (.long zz13_S0), .second, .val (.int vi18), .unset, .unset, .unset, .unset, .unset, .unset, .unset] [(.long zz13_S0)]))
            refine own_go (fun t_ k => XS.iload X15.here hx rfl (hb hby at_97) rfl k) ?_
            show WP p e below _ (T15.setTop (mkF m 99 #[.val (.long q1), .second, .val (.long q2), .second, .val (.long q3), .second, .val (.int p4), .val (.int z2_S0), .val (.ref b4), .val (.int (1 : Int32)), .val (.int z10_S0), .val (.long zz13_S0), .second, .val (.int vi18), .unset, .unset, .unset, .unset, .unset, .unset, .unset] [(.int p4), (.long zz13_S0)]))
            refine own_go (fun t_ k => XS.iconst X15.here hx rfl (hb hby at_99) k) ?_
            show WP p e below _ (T15.setTop (mkF m 100 #[.val (.long q1), .second, .val (.long q2), .second, .val (.long q3), .second, .val (.int p4), .val (.int z2_S0), .val (.ref b4), .val (.int (1 : Int32)), .val (.int z10_S0), .val (.long zz13_S0), .second, .val (.int vi18), .unset, .unset, .unset, .unset, .unset, .unset, .unset] [(.int (2 : Int32)), (.int p4), (.long zz13_S0)]))
            refine own_go (fun t_ k => XS.ishr X15.here hx rfl (hb hby at_100) rfl k) ?_
            show WP p e below _ (T15.setTop (mkF m 101 #[.val (.long q1), .second, .val (.long q2), .second, .val (.long q3), .second, .val (.int p4), .val (.int z2_S0), .val (.ref b4), .val (.int (1 : Int32)), .val (.int z10_S0), .val (.long zz13_S0), .second, .val (.int vi18), .unset, .unset, .unset, .unset, .unset, .unset, .unset] [(.int (p4 >>> ((2 : Int32) &&& 31))), (.long zz13_S0)]))
            refine own_go (fun t_ k => XS.iconst X15.here hx rfl (hb hby at_101) k) ?_
            show WP p e below _ (T15.setTop (mkF m 102 #[.val (.long q1), .second, .val (.long q2), .second, .val (.long q3), .second, .val (.int p4), .val (.int z2_S0), .val (.ref b4), .val (.int (1 : Int32)), .val (.int z10_S0), .val (.long zz13_S0), .second, .val (.int vi18), .unset, .unset, .unset, .unset, .unset, .unset, .unset] [(.int (3 : Int32)), (.int (p4 >>> ((2 : Int32) &&& 31))), (.long zz13_S0)]))
            refine own_go (fun t_ k => XS.iand X15.here hx rfl (hb hby at_102) rfl k) ?_
            show WP p e below _ (T15.setTop (mkF m 103 #[.val (.long q1), .second, .val (.long q2), .second, .val (.long q3), .second, .val (.int p4), .val (.int z2_S0), .val (.ref b4), .val (.int (1 : Int32)), .val (.int z10_S0), .val (.long zz13_S0), .second, .val (.int vi18), .unset, .unset, .unset, .unset, .unset, .unset, .unset] [(.int ((p4 >>> ((2 : Int32) &&& 31)) &&& (3 : Int32))), (.long zz13_S0)]))
            refine own_go (fun t_ k => XS.iconst X15.here hx rfl (hb hby at_103) k) ?_
            show WP p e below _ (T15.setTop (mkF m 104 #[.val (.long q1), .second, .val (.long q2), .second, .val (.long q3), .second, .val (.int p4), .val (.int z2_S0), .val (.ref b4), .val (.int (1 : Int32)), .val (.int z10_S0), .val (.long zz13_S0), .second, .val (.int vi18), .unset, .unset, .unset, .unset, .unset, .unset, .unset] [(.int (1 : Int32)), (.int ((p4 >>> ((2 : Int32) &&& 31)) &&& (3 : Int32))), (.long zz13_S0)]))
            refine own_go (fun t_ k => XS.isub X15.here hx rfl (hb hby at_104) rfl k) ?_
            show WP p e below _ (T15.setTop (mkF m 105 #[.val (.long q1), .second, .val (.long q2), .second, .val (.long q3), .second, .val (.int p4), .val (.int z2_S0), .val (.ref b4), .val (.int (1 : Int32)), .val (.int z10_S0), .val (.long zz13_S0), .second, .val (.int vi18), .unset, .unset, .unset, .unset, .unset, .unset, .unset] [(.int (((p4 >>> ((2 : Int32) &&& 31)) &&& (3 : Int32)) - (1 : Int32))), (.long zz13_S0)]))
            refine own_go (fun t_ k => XS.i2l X15.here hx rfl (hb hby at_105) rfl k) ?_
            show WP p e below _ (T15.setTop (mkF m 106 #[.val (.long q1), .second, .val (.long q2), .second, .val (.long q3), .second, .val (.int p4), .val (.int z2_S0), .val (.ref b4), .val (.int (1 : Int32)), .val (.int z10_S0), .val (.long zz13_S0), .second, .val (.int vi18), .unset, .unset, .unset, .unset, .unset, .unset, .unset] [(.long ((((p4 >>> ((2 : Int32) &&& 31)) &&& (3 : Int32)) - (1 : Int32)).toInt64)), (.long zz13_S0)]))
            refine own_go (fun t_ k => XS.ladd X15.here hx rfl (hb hby at_106) rfl k) ?_
            show WP p e below _ (T15.setTop (mkF m 107 #[.val (.long q1), .second, .val (.long q2), .second, .val (.long q3), .second, .val (.int p4), .val (.int z2_S0), .val (.ref b4), .val (.int (1 : Int32)), .val (.int z10_S0), .val (.long zz13_S0), .second, .val (.int vi18), .unset, .unset, .unset, .unset, .unset, .unset, .unset] [(.long (zz13_S0 + ((((p4 >>> ((2 : Int32) &&& 31)) &&& (3 : Int32)) - (1 : Int32)).toInt64)))]))
            exact J21 T15 _ X15 N15 rfl _ (by rw [if_pos hc87_19])
          · refine own_go (fun t_ k => XS.ifNo X15.here hx rfl (hb hby at_87) rfl ((if0 _ _).trans (feq hc87_19).1) k) ?_
            show WP p e below _ (T15.setTop (mkF m 90 #[.val (.long q1), .second, .val (.long q2), .second, .val (.long q3), .second, .val (.int p4), .val (.int z2_S0), .val (.ref b4), .val (.int (1 : Int32)), .val (.int z10_S0), .val (.long zz13_S0), .second, .val (.int vi18), .unset, .unset, .unset, .unset, .unset, .unset, .unset] []))
            refine own_go (fun t_ k => XS.lload X15.here hx rfl (hb hby at_90) rfl k) ?_
            show WP p e below _ (T15.setTop (mkF m 92 #[.val (.long q1), .second, .val (.long q2), .second, .val (.long q3), .second, .val (.int p4), .val (.int z2_S0), .val (.ref b4), .val (.int (1 : Int32)), .val (.int z10_S0), .val (.long zz13_S0), .second, .val (.int vi18), .unset, .unset, .unset, .unset, .unset, .unset, .unset] [(.long q3)]))
            refine own_go (fun t_ k => XS.goto X15.here hx rfl (pc0 := 92) (pc' := 107) rfl (hb hby at_92) (by decide) (by decide) k) ?_
            show WP p e below _ (T15.setTop (mkF m 107 #[.val (.long q1), .second, .val (.long q2), .second, .val (.long q3), .second, .val (.int p4), .val (.int z2_S0), .val (.ref b4), .val (.int (1 : Int32)), .val (.int z10_S0), .val (.long zz13_S0), .second, .val (.int vi18), .unset, .unset, .unset, .unset, .unset, .unset, .unset] [(.long q3)]))
            exact J21 T15 _ X15 N15 rfl _ (by rw [if_neg hc87_19])
        by_cases hc65_12 : z10_S0 = (0 : Int32)
        · refine own_go (fun t_ k => XS.ifYes X11.here hx rfl (pc0 := 65) (pc' := 72) rfl (hb hby at_65) rfl ((if0 _ _).trans (teq hc65_12).1) (by decide) (by decide) k) ?_
          show WP p e below _ (T11.setTop (mkF m 72 #[.val (.long q1), .second, .val (.long q2), .second, .val (.long q3), .second, .val (.int p4), .val (.int z2_S0), .val (.ref b4), .val (.int (1 : Int32)), .val (.int z10_S0), .unset, .unset, .unset, .unset, .unset, .unset, .unset, .unset, .unset, .unset] []))
          refine own_go (fun t_ k => XS.lloadN X11.here hx rfl (hb hby at_72) rfl k) ?_
          show WP p e below _ (T11.setTop (mkF m 73 #[.val (.long q1), .second, .val (.long q2), .second, .val (.long q3), .second, .val (.int p4), .val (.int z2_S0), .val (.ref b4), .val (.int (1 : Int32)), .val (.int z10_S0), .unset, .unset, .unset, .unset, .unset, .unset, .unset, .unset, .unset, .unset] [(.long q1)]))
          exact J14 T11 _ X11 N11 e11 _ (by rw [if_pos hc65_12])
        · refine own_go (fun t_ k => XS.ifNo X11.here hx rfl (hb hby at_65) rfl ((if0 _ _).trans (feq hc65_12).1) k) ?_
          show WP p e below _ (T11.setTop (mkF m 68 #[.val (.long q1), .second, .val (.long q2), .second, .val (.long q3), .second, .val (.int p4), .val (.int z2_S0), .val (.ref b4), .val (.int (1 : Int32)), .val (.int z10_S0), .unset, .unset, .unset, .unset, .unset, .unset, .unset, .unset, .unset, .unset] []))
          refine own_go (fun t_ k => XS.lloadN X11.here hx rfl (hb hby at_68) rfl k) ?_
          show WP p e below _ (T11.setTop (mkF m 69 #[.val (.long q1), .second, .val (.long q2), .second, .val (.long q3), .second, .val (.int p4), .val (.int z2_S0), .val (.ref b4), .val (.int (1 : Int32)), .val (.int z10_S0), .unset, .unset, .unset, .unset, .unset, .unset, .unset, .unset, .unset, .unset] [(.long q2)]))
          refine own_go (fun t_ k => XS.goto X11.here hx rfl (pc0 := 69) (pc' := 73) rfl (hb hby at_69) (by decide) (by decide) k) ?_
          show WP p e below _ (T11.setTop (mkF m 73 #[.val (.long q1), .second, .val (.long q2), .second, .val (.long q3), .second, .val (.int p4), .val (.int z2_S0), .val (.ref b4), .val (.int (1 : Int32)), .val (.int z10_S0), .unset, .unset, .unset, .unset, .unset, .unset, .unset, .unset, .unset, .unset] [(.long q2)]))
          exact J14 T11 _ X11 N11 e11 _ (by rw [if_neg hc65_12])
      by_cases hc47_9 : z2_S0 = (0 : Int32)
      · refine own_go (fun t_ k => XS.ifYes X5.here hx rfl (pc0 := 47) (pc' := 56) rfl (hb hby at_47) rfl ((if0 _ _).trans (teq hc47_9).1) (by decide) (by decide) k) ?_
        show WP p e below _ (T5.setTop (mkF m 56 #[.val (.long q1), .second, .val (.long q2), .second, .val (.long q3), .second, .val (.int p4), .val (.int z2_S0), .val (.ref b4), .val (.int (1 : Int32)), .unset, .unset, .unset, .unset, .unset, .unset, .unset, .unset, .unset, .unset, .unset] []))
        refine own_go (fun t_ k => XS.iconst X5.here hx rfl (hb hby at_56) k) ?_
        show WP p e below _ (T5.setTop (mkF m 57 #[.val (.long q1), .second, .val (.long q2), .second, .val (.long q3), .second, .val (.int p4), .val (.int z2_S0), .val (.ref b4), .val (.int (1 : Int32)), .unset, .unset, .unset, .unset, .unset, .unset, .unset, .unset, .unset, .unset, .unset] [(.int (1 : Int32))]))
        refine own_go (fun t_ k => XS.goto X5.here hx rfl (pc0 := 57) (pc' := 61) rfl (hb hby at_57) (by decide) (by decide) k) ?_
        show WP p e below _ (T5.setTop (mkF m 61 #[.val (.long q1), .second, .val (.long q2), .second, .val (.long q3), .second, .val (.int p4), .val (.int z2_S0), .val (.ref b4), .val (.int (1 : Int32)), .unset, .unset, .unset, .unset, .unset, .unset, .unset, .unset, .unset, .unset, .unset] [(.int (1 : Int32))]))
        exact J11 T5 _ X5 N5 rfl _ (by rw [if_pos hc47_9])
      · refine own_go (fun t_ k => XS.ifNo X5.here hx rfl (hb hby at_47) rfl ((if0 _ _).trans (feq hc47_9).1) k) ?_
        show WP p e below _ (T5.setTop (mkF m 50 #[.val (.long q1), .second, .val (.long q2), .second, .val (.long q3), .second, .val (.int p4), .val (.int z2_S0), .val (.ref b4), .val (.int (1 : Int32)), .unset, .unset, .unset, .unset, .unset, .unset, .unset, .unset, .unset, .unset, .unset] []))
        refine own_go (fun t_ k => XS.lloadN X5.here hx rfl (hb hby at_50) rfl k) ?_
        show WP p e below _ (T5.setTop (mkF m 51 #[.val (.long q1), .second, .val (.long q2), .second, .val (.long q3), .second, .val (.int p4), .val (.int z2_S0), .val (.ref b4), .val (.int (1 : Int32)), .unset, .unset, .unset, .unset, .unset, .unset, .unset, .unset, .unset, .unset, .unset] [(.long q2)]))
        refine own_go (fun t_ k => XS.lloadN X5.here hx rfl (hb hby at_51) rfl k) ?_
        show WP p e below _ (T5.setTop (mkF m 52 #[.val (.long q1), .second, .val (.long q2), .second, .val (.long q3), .second, .val (.int p4), .val (.int z2_S0), .val (.ref b4), .val (.int (1 : Int32)), .unset, .unset, .unset, .unset, .unset, .unset, .unset, .unset, .unset, .unset, .unset] [(.long q1), (.long q2)]))
        refine own_go (fun t_ k => XS.lcmp X5.here hx rfl (hb hby at_52) rfl k) ?_
        show WP p e below _ (T5.setTop (mkF m 53 #[.val (.long q1), .second, .val (.long q2), .second, .val (.long q3), .second, .val (.int p4), .val (.int z2_S0), .val (.ref b4), .val (.int (1 : Int32)), .unset, .unset, .unset, .unset, .unset, .unset, .unset, .unset, .unset, .unset, .unset] [(.int (lcmpW q2 q1))]))
        by_cases hc53_43 : q1 < q2
        · refine own_go (fun t_ k => XS.ifNo X5.here hx rfl (hb hby at_53) rfl ((if0 _ _).trans (tlt ((lw_gt _ _).mpr hc53_43)).2.2.2) k) ?_
          show WP p e below _ (T5.setTop (mkF m 56 #[.val (.long q1), .second, .val (.long q2), .second, .val (.long q3), .second, .val (.int p4), .val (.int z2_S0), .val (.ref b4), .val (.int (1 : Int32)), .unset, .unset, .unset, .unset, .unset, .unset, .unset, .unset, .unset, .unset, .unset] []))
          refine own_go (fun t_ k => XS.iconst X5.here hx rfl (hb hby at_56) k) ?_
          show WP p e below _ (T5.setTop (mkF m 57 #[.val (.long q1), .second, .val (.long q2), .second, .val (.long q3), .second, .val (.int p4), .val (.int z2_S0), .val (.ref b4), .val (.int (1 : Int32)), .unset, .unset, .unset, .unset, .unset, .unset, .unset, .unset, .unset, .unset, .unset] [(.int (1 : Int32))]))
          refine own_go (fun t_ k => XS.goto X5.here hx rfl (pc0 := 57) (pc' := 61) rfl (hb hby at_57) (by decide) (by decide) k) ?_
          show WP p e below _ (T5.setTop (mkF m 61 #[.val (.long q1), .second, .val (.long q2), .second, .val (.long q3), .second, .val (.int p4), .val (.int z2_S0), .val (.ref b4), .val (.int (1 : Int32)), .unset, .unset, .unset, .unset, .unset, .unset, .unset, .unset, .unset, .unset, .unset] [(.int (1 : Int32))]))
          exact J11 T5 _ X5 N5 rfl _ (by rw [if_neg hc47_9, if_pos hc53_43])
        · refine own_go (fun t_ k => XS.ifYes X5.here hx rfl (pc0 := 53) (pc' := 60) rfl (hb hby at_53) rfl ((if0 _ _).trans (flt (mt (lw_gt _ _).mp hc53_43)).2.2.2) (by decide) (by decide) k) ?_
          show WP p e below _ (T5.setTop (mkF m 60 #[.val (.long q1), .second, .val (.long q2), .second, .val (.long q3), .second, .val (.int p4), .val (.int z2_S0), .val (.ref b4), .val (.int (1 : Int32)), .unset, .unset, .unset, .unset, .unset, .unset, .unset, .unset, .unset, .unset, .unset] []))
          refine own_go (fun t_ k => XS.iconst X5.here hx rfl (hb hby at_60) k) ?_
          show WP p e below _ (T5.setTop (mkF m 61 #[.val (.long q1), .second, .val (.long q2), .second, .val (.long q3), .second, .val (.int p4), .val (.int z2_S0), .val (.ref b4), .val (.int (1 : Int32)), .unset, .unset, .unset, .unset, .unset, .unset, .unset, .unset, .unset, .unset, .unset] [(.int (0 : Int32))]))
          exact J11 T5 _ X5 N5 rfl _ (by rw [if_neg hc47_9, if_neg hc53_43])
    · refine own_go (fun t_ k => XS.ifNo X5.here hx rfl (hb hby at_29) rfl ((if0 _ _).trans (feq hc29_8).1) k) ?_
      show WP p e below _ (T5.setTop (mkF m 32 #[.val (.long q1), .second, .val (.long q2), .second, .val (.long q3), .second, .val (.int p4), .val (.int z2_S0), .val (.ref b4), .val (.int (1 : Int32)), .unset, .unset, .unset, .unset, .unset, .unset, .unset, .unset, .unset, .unset, .unset] []))
      refine own_go (fun t_ k => XS.aload X5.here hx rfl (hb hby at_32) rfl rfl k) ?_
      show WP p e below _ (T5.setTop (mkF m 34 #[.val (.long q1), .second, .val (.long q2), .second, .val (.long q3), .second, .val (.int p4), .val (.int z2_S0), .val (.ref b4), .val (.int (1 : Int32)), .unset, .unset, .unset, .unset, .unset, .unset, .unset, .unset, .unset, .unset, .unset] [(.ref b4)]))
      refine own_go (fun t_ k => XS.lloadN X5.here hx rfl (hb hby at_34) rfl k) ?_
      show WP p e below _ (T5.setTop (mkF m 35 #[.val (.long q1), .second, .val (.long q2), .second, .val (.long q3), .second, .val (.int p4), .val (.int z2_S0), .val (.ref b4), .val (.int (1 : Int32)), .unset, .unset, .unset, .unset, .unset, .unset, .unset, .unset, .unset, .unset, .unset] [(.long q1), (.ref b4)]))
      refine own_go (fun t_ k => X5.ldc2Long hx hown (mvT hZ (hw _ (List.mem_of_getElem? (i := 18) rfl))) (g := (mkF m 35 #[.val (.long q1), .second, .val (.long q2), .second, .val (.long q3), .second, .val (.int p4), .val (.int z2_S0), .val (.ref b4), .val (.int (1 : Int32)), .unset, .unset, .unset, .unset, .unset, .unset, .unset, .unset, .unset, .unset, .unset] [(.long q1), (.ref b4)])) rfl (hb hby at_35) _ k) ?_
      show WP p e below _ (T5.setTop (mkF m 38 #[.val (.long q1), .second, .val (.long q2), .second, .val (.long q3), .second, .val (.int p4), .val (.int z2_S0), .val (.ref b4), .val (.int (1 : Int32)), .unset, .unset, .unset, .unset, .unset, .unset, .unset, .unset, .unset, .unset, .unset] [(.long (2 : Int64)), (.long q1), (.ref b4)]))
      refine own_go (fun t_ k => XS.ladd X5.here hx rfl (hb hby at_38) rfl k) ?_
      show WP p e below _ (T5.setTop (mkF m 39 #[.val (.long q1), .second, .val (.long q2), .second, .val (.long q3), .second, .val (.int p4), .val (.int z2_S0), .val (.ref b4), .val (.int (1 : Int32)), .unset, .unset, .unset, .unset, .unset, .unset, .unset, .unset, .unset, .unset, .unset] [(.long (q1 + (2 : Int64))), (.ref b4)]))
      refine own_go (fun t_ k => XS.iconst X5.here hx rfl (hb hby at_39) k) ?_
      show WP p e below _ (T5.setTop (mkF m 40 #[.val (.long q1), .second, .val (.long q2), .second, .val (.long q3), .second, .val (.int p4), .val (.int z2_S0), .val (.ref b4), .val (.int (1 : Int32)), .unset, .unset, .unset, .unset, .unset, .unset, .unset, .unset, .unset, .unset, .unset] [(.int (0 : Int32)), (.long (q1 + (2 : Int64))), (.ref b4)]))
      obtain ⟨cq44, kq44, q44a, q44b, q44c⟩ := isOf (T := T5) hZ rfl E5c
      obtain ⟨_, _, ⟨T44, L44, k44, n44⟩, -, X44, ⟨Lc44, hQ44, l44, y44, z44⟩, st44⟩ := X5.virtualBack hx (y := (⟨"com/example/holdfast/holdfast/PastDamage", "picksUpAt", "(JI)Z"⟩ : MethodName)) (z := (⟨"com/example/holdfast/holdfast/PastDamage", "picksUpAt", "(JI)Z"⟩ : MethodName)) hown (mvT hZ (hw _ (List.mem_of_getElem? (i := 19) rfl))) (mvT hZ (hw _ (List.mem_of_getElem? (i := 20) rfl))) (notFace_of_selects (args := #[]) (mvT hZ (hw _ (List.mem_of_getElem? (i := 22) rfl)))) (mvT hZ (hw _ (List.mem_of_getElem? (i := 22) rfl))) (mvT hZ (hw _ (List.mem_of_getElem? (i := 21) rfl))) (by decide) (backOf (W := 0) (rm4 l Z a0 hw [] b4 (q1 + (2 : Int64)) (0 : Int32) vj6 vi7 T5.heap n0 E5c g_b4 F5c0 F5c1) hZ (hw _ (List.mem_of_getElem? (i := 23) rfl)) (hw _ (List.mem_of_getElem? (i := 2) rfl)) (by decide) (by decide)) q44a q44c (g := (mkF m 40 #[.val (.long q1), .second, .val (.long q2), .second, .val (.long q3), .second, .val (.int p4), .val (.int z2_S0), .val (.ref b4), .val (.int (1 : Int32)), .unset, .unset, .unset, .unset, .unset, .unset, .unset, .unset, .unset, .unset, .unset] [(.int (0 : Int32)), (.long (q1 + (2 : Int64))), (.ref b4)])) rfl (by rw [hml]; rfl) (Steps.refl _) (argsL := [(.long (q1 + (2 : Int64))), (.int (0 : Int32))]) (rest := []) (lenOf pd_2 rfl) rfl (by show 2 * 0 + _ ≤ _; exact Nat.le_of_eq rfl) (hb hby at_40) (fun _ _ => ⟨rfl, rfl, (by decide : 1 + 0 ≤ _), (by decide : 2 + 0 ≤ _)⟩)
      dsimp only [Pt.U, Pt.locs, Pt.cells, Pt.slots] at X44 l44 y44 z44 st44 hQ44
      subst l44 y44 z44
      obtain ⟨rfl, N44q, K44c, E44c, F44c0, F44c1⟩ := hQ44
      have N44 := Fr.app N5 N44q
      replace X44 : Stand p l e room_1 s m _ below meth c T44 _ 1 2 := X44
      refine own_go (fun t_ k => st44.trans k) ?_
      have K44 : Keep h0 T44.heap [] := K5.trans K44c (allS (Or.inr sz_b4) all0)
      generalize he45 : (f4_last (q1 + (2 : Int64)) (0 : Int32) vj6 vi7) = vj45 at F44c0
      generalize he46 : (f4_doubtFrom (q1 + (2 : Int64)) (0 : Int32) vj6 vi7) = vi46 at F44c1
      show WP p e below _ (T44.setTop (mkF m 43 #[.val (.long q1), .second, .val (.long q2), .second, .val (.long q3), .second, .val (.int p4), .val (.int z2_S0), .val (.ref b4), .val (.int (1 : Int32)), .unset, .unset, .unset, .unset, .unset, .unset, .unset, .unset, .unset, .unset, .unset] [(.int (f4 (q1 + (2 : Int64)) (0 : Int32) vj6 vi7))]))
      generalize he47 : (f4 (q1 + (2 : Int64)) (0 : Int32) vj6 vi7) = vi47
      show WP p e below _ (T44.setTop (mkF m 43 #[.val (.long q1), .second, .val (.long q2), .second, .val (.long q3), .second, .val (.int p4), .val (.int z2_S0), .val (.ref b4), .val (.int (1 : Int32)), .unset, .unset, .unset, .unset, .unset, .unset, .unset, .unset, .unset, .unset, .unset] [(.int vi47)]))
      refine own_go (fun t_ k => XS.istore X44.here hx rfl (hb hby at_43) rfl (l' := #[.val (.long q1), .second, .val (.long q2), .second, .val (.long q3), .second, .val (.int p4), .val (.int z2_S0), .val (.ref b4), .val (.int vi47), .unset, .unset, .unset, .unset, .unset, .unset, .unset, .unset, .unset, .unset, .unset]) rfl k) ?_
      show WP p e below _ (T44.setTop (mkF m 45 #[.val (.long q1), .second, .val (.long q2), .second, .val (.long q3), .second, .val (.int p4), .val (.int z2_S0), .val (.ref b4), .val (.int vi47), .unset, .unset, .unset, .unset, .unset, .unset, .unset, .unset, .unset, .unset, .unset] []))
      refine own_go (fun t_ k => XS.iload X44.here hx rfl (hb hby at_45) rfl k) ?_
      show WP p e below _ (T44.setTop (mkF m 47 #[.val (.long q1), .second, .val (.long q2), .second, .val (.long q3), .second, .val (.int p4), .val (.int z2_S0), .val (.ref b4), .val (.int vi47), .unset, .unset, .unset, .unset, .unset, .unset, .unset, .unset, .unset, .unset, .unset] [(.int z2_S0)]))
      have J50 : ∀ (T50 : State) (ls50 : List Loc) (X50 : Stand p l e room_1 s m #[(.long q1), (.long q2), (.long q3), (.int p4)] below meth c T50 ls50 1 2) (N50 : Fr n0 ls50) (e50 : T50.heap = T44.heap) (z49_S0 : Int32) (hz49_S0 : z49_S0 = (if z2_S0 = (0 : Int32) then (1 : Int32) else (if q1 < q2 then (1 : Int32) else (0 : Int32)))), WP p e below (GG (Q0 n0) s room_1.cells room_1.slots) (T50.setTop (mkF m 61 #[.val (.long q1), .second, .val (.long q2), .second, .val (.long q3), .second, .val (.int p4), .val (.int z2_S0), .val (.ref b4), .val (.int vi47), .unset, .unset, .unset, .unset, .unset, .unset, .unset, .unset, .unset, .unset, .unset] [(.int z49_S0)])) := by
        intro T50 ls50 X50 N50 e50 z49_S0 hz49_S0
        show WP p e below _ (T50.setTop (mkF m 61 #[.val (.long q1), .second, .val (.long q2), .second, .val (.long q3), .second, .val (.int p4), .val (.int z2_S0), .val (.ref b4), .val (.int vi47), .unset, .unset, .unset, .unset, .unset, .unset, .unset, .unset, .unset, .unset, .unset] [(.int z49_S0)]))
        refine own_go (fun t_ k => XS.istore X50.here hx rfl (hb hby at_61) rfl (l' := #[.val (.long q1), .second, .val (.long q2), .second, .val (.long q3), .second, .val (.int p4), .val (.int z2_S0), .val (.ref b4), .val (.int vi47), .val (.int z49_S0), .unset, .unset, .unset, .unset, .unset, .unset, .unset, .unset, .unset, .unset]) rfl k) ?_
        show WP p e below _ (T50.setTop (mkF m 63 #[.val (.long q1), .second, .val (.long q2), .second, .val (.long q3), .second, .val (.int p4), .val (.int z2_S0), .val (.ref b4), .val (.int vi47), .val (.int z49_S0), .unset, .unset, .unset, .unset, .unset, .unset, .unset, .unset, .unset, .unset] []))
        refine own_go (fun t_ k => XS.iload X50.here hx rfl (hb hby at_63) rfl k) ?_
        show WP p e below _ (T50.setTop (mkF m 65 #[.val (.long q1), .second, .val (.long q2), .second, .val (.long q3), .second, .val (.int p4), .val (.int z2_S0), .val (.ref b4), .val (.int vi47), .val (.int z49_S0), .unset, .unset, .unset, .unset, .unset, .unset, .unset, .unset, .unset, .unset] [(.int z49_S0)]))
        have J53 : ∀ (T53 : State) (ls53 : List Loc) (X53 : Stand p l e room_1 s m #[(.long q1), (.long q2), (.long q3), (.int p4)] below meth c T53 ls53 1 2) (N53 : Fr n0 ls53) (e53 : T53.heap = T44.heap) (zz52_S0 : Int64) (hzz52_S0 : zz52_S0 = (if z49_S0 = (0 : Int32) then q1 else q2)), WP p e below (GG (Q0 n0) s room_1.cells room_1.slots) (T53.setTop (mkF m 73 #[.val (.long q1), .second, .val (.long q2), .second, .val (.long q3), .second, .val (.int p4), .val (.int z2_S0), .val (.ref b4), .val (.int vi47), .val (.int z49_S0), .unset, .unset, .unset, .unset, .unset, .unset, .unset, .unset, .unset, .unset] [(.long zz52_S0)])) := by
          intro T53 ls53 X53 N53 e53 zz52_S0 hzz52_S0
          show WP p e below _ (T53.setTop (mkF m 73 #[.val (.long q1), .second, .val (.long q2), .second, .val (.long q3), .second, .val (.int p4), .val (.int z2_S0), .val (.ref b4), .val (.int vi47), .val (.int z49_S0), .unset, .unset, .unset, .unset, .unset, .unset, .unset, .unset, .unset, .unset] [(.long zz52_S0)]))
          refine own_go (fun t_ k => XS.lstore X53.here hx rfl (hb hby at_73) rfl (l' := #[.val (.long q1), .second, .val (.long q2), .second, .val (.long q3), .second, .val (.int p4), .val (.int z2_S0), .val (.ref b4), .val (.int vi47), .val (.int z49_S0), .val (.long zz52_S0), .second, .unset, .unset, .unset, .unset, .unset, .unset, .unset, .unset]) rfl k) ?_
          show WP p e below _ (T53.setTop (mkF m 75 #[.val (.long q1), .second, .val (.long q2), .second, .val (.long q3), .second, .val (.int p4), .val (.int z2_S0), .val (.ref b4), .val (.int vi47), .val (.int z49_S0), .val (.long zz52_S0), .second, .unset, .unset, .unset, .unset, .unset, .unset, .unset, .unset] []))
          refine own_go (fun t_ k => XS.aload X53.here hx rfl (hb hby at_75) rfl rfl k) ?_
          show WP p e below _ (T53.setTop (mkF m 77 #[.val (.long q1), .second, .val (.long q2), .second, .val (.long q3), .second, .val (.int p4), .val (.int z2_S0), .val (.ref b4), .val (.int vi47), .val (.int z49_S0), .val (.long zz52_S0), .second, .unset, .unset, .unset, .unset, .unset, .unset, .unset, .unset] [(.ref b4)]))
          refine own_go (fun t_ k => XS.lloadN X53.here hx rfl (hb hby at_77) rfl k) ?_
          show WP p e below _ (T53.setTop (mkF m 78 #[.val (.long q1), .second, .val (.long q2), .second, .val (.long q3), .second, .val (.int p4), .val (.int z2_S0), .val (.ref b4), .val (.int vi47), .val (.int z49_S0), .val (.long zz52_S0), .second, .unset, .unset, .unset, .unset, .unset, .unset, .unset, .unset] [(.long q2), (.ref b4)]))
          obtain ⟨cq54, kq54, q54a, q54b, q54c⟩ := isOf (T := T53) hZ e53 E44c
          obtain ⟨_, _, ⟨T54, L54, k54, n54⟩, -, X54, ⟨Lc54, hQ54, l54, y54, z54⟩, st54⟩ := X53.virtualBack hx (y := (⟨"com/example/holdfast/holdfast/PastDamage", "takes", "(J)Z"⟩ : MethodName)) (z := (⟨"com/example/holdfast/holdfast/PastDamage", "takes", "(J)Z"⟩ : MethodName)) hown (mvT hZ (hw _ (List.mem_of_getElem? (i := 13) rfl))) (mvT hZ (hw _ (List.mem_of_getElem? (i := 14) rfl))) (notFace_of_selects (args := #[]) (mvT hZ (hw _ (List.mem_of_getElem? (i := 16) rfl)))) (mvT hZ (hw _ (List.mem_of_getElem? (i := 16) rfl))) (mvT hZ (hw _ (List.mem_of_getElem? (i := 15) rfl))) (by decide) (backOf (W := 0) (rm3 l Z a0 hw [] b4 q2 vj45 vi46 T44.heap n0 E44c g_b4 F44c0 F44c1) hZ (hw _ (List.mem_of_getElem? (i := 17) rfl)) (hw _ (List.mem_of_getElem? (i := 2) rfl)) (by decide) (by decide)) q54a q54c (g := (mkF m 78 #[.val (.long q1), .second, .val (.long q2), .second, .val (.long q3), .second, .val (.int p4), .val (.int z2_S0), .val (.ref b4), .val (.int vi47), .val (.int z49_S0), .val (.long zz52_S0), .second, .unset, .unset, .unset, .unset, .unset, .unset, .unset, .unset] [(.long q2), (.ref b4)])) rfl (by rw [hml]; rfl) (Steps.refl _) (argsL := [(.long q2)]) (rest := []) (lenOf pd_1 rfl) rfl (by show 2 * 0 + _ ≤ _; exact Nat.le_of_eq rfl) (hb hby at_78) (fun _ _ => ⟨rfl, e53, (by decide : 1 + 0 ≤ _), (by decide : 2 + 0 ≤ _)⟩)
          dsimp only [Pt.U, Pt.locs, Pt.cells, Pt.slots] at X54 l54 y54 z54 st54 hQ54
          subst l54 y54 z54
          obtain ⟨rfl, N54q, K54c, E54c, F54c0, F54c1⟩ := hQ54
          have N54 := Fr.app N53 N54q
          replace X54 : Stand p l e room_1 s m _ below meth c T54 _ 1 2 := X54
          refine own_go (fun t_ k => st54.trans k) ?_
          have K54 : Keep h0 T54.heap [] := K44.trans K54c (allS (Or.inr sz_b4) all0)
          generalize he55 : (f3_last q2 vj45 vi46) = vj55 at F54c0
          generalize he56 : (f3_doubtFrom q2 vj45 vi46) = vi56 at F54c1
          show WP p e below _ (T54.setTop (mkF m 81 #[.val (.long q1), .second, .val (.long q2), .second, .val (.long q3), .second, .val (.int p4), .val (.int z2_S0), .val (.ref b4), .val (.int vi47), .val (.int z49_S0), .val (.long zz52_S0), .second, .unset, .unset, .unset, .unset, .unset, .unset, .unset, .unset] [(.int (f3 q2 vj45 vi46))]))
          generalize he57 : (f3 q2 vj45 vi46) = vi57
          show WP p e below _ (T54.setTop (mkF m 81 #[.val (.long q1), .second, .val (.long q2), .second, .val (.long q3), .second, .val (.int p4), .val (.int z2_S0), .val (.ref b4), .val (.int vi47), .val (.int z49_S0), .val (.long zz52_S0), .second, .unset, .unset, .unset, .unset, .unset, .unset, .unset, .unset] [(.int vi57)]))
          refine own_go (fun t_ k => XS.istore X54.here hx rfl (hb hby at_81) rfl (l' := #[.val (.long q1), .second, .val (.long q2), .second, .val (.long q3), .second, .val (.int p4), .val (.int z2_S0), .val (.ref b4), .val (.int vi47), .val (.int z49_S0), .val (.long zz52_S0), .second, .val (.int vi57), .unset, .unset, .unset, .unset, .unset, .unset, .unset]) rfl k) ?_
          show WP p e below _ (T54.setTop (mkF m 83 #[.val (.long q1), .second, .val (.long q2), .second, .val (.long q3), .second, .val (.int p4), .val (.int z2_S0), .val (.ref b4), .val (.int vi47), .val (.int z49_S0), .val (.long zz52_S0), .second, .val (.int vi57), .unset, .unset, .unset, .unset, .unset, .unset, .unset] []))
          refine own_go (fun t_ k => XS.iload X54.here hx rfl (hb hby at_83) rfl k) ?_
          show WP p e below _ (T54.setTop (mkF m 85 #[.val (.long q1), .second, .val (.long q2), .second, .val (.long q3), .second, .val (.int p4), .val (.int z2_S0), .val (.ref b4), .val (.int vi47), .val (.int z49_S0), .val (.long zz52_S0), .second, .val (.int vi57), .unset, .unset, .unset, .unset, .unset, .unset, .unset] [(.int p4)]))
          refine own_go (fun t_ k => XS.iconst X54.here hx rfl (hb hby at_85) k) ?_
          show WP p e below _ (T54.setTop (mkF m 86 #[.val (.long q1), .second, .val (.long q2), .second, .val (.long q3), .second, .val (.int p4), .val (.int z2_S0), .val (.ref b4), .val (.int vi47), .val (.int z49_S0), .val (.long zz52_S0), .second, .val (.int vi57), .unset, .unset, .unset, .unset, .unset, .unset, .unset] [(.int (2 : Int32)), (.int p4)]))
          refine own_go (fun t_ k => XS.iand X54.here hx rfl (hb hby at_86) rfl k) ?_
          show WP p e below _ (T54.setTop (mkF m 87 #[.val (.long q1), .second, .val (.long q2), .second, .val (.long q3), .second, .val (.int p4), .val (.int z2_S0), .val (.ref b4), .val (.int vi47), .val (.int z49_S0), .val (.long zz52_S0), .second, .val (.int vi57), .unset, .unset, .unset, .unset, .unset, .unset, .unset] [(.int (p4 &&& (2 : Int32)))]))
          have J60 : ∀ (T60 : State) (ls60 : List Loc) (X60 : Stand p l e room_1 s m #[(.long q1), (.long q2), (.long q3), (.int p4)] below meth c T60 ls60 1 2) (N60 : Fr n0 ls60) (e60 : T60.heap = T54.heap) (zz59_S0 : Int64) (hzz59_S0 : zz59_S0 = (if (p4 &&& (2 : Int32)) = (0 : Int32) then (zz52_S0 + ((((p4 >>> ((2 : Int32) &&& 31)) &&& (3 : Int32)) - (1 : Int32)).toInt64)) else q3)), WP p e below (GG (Q0 n0) s room_1.cells room_1.slots) (T60.setTop (mkF m 107 #[.val (.long q1), .second, .val (.long q2), .second, .val (.long q3), .second, .val (.int p4), .val (.int z2_S0), .val (.ref b4), .val (.int vi47), .val (.int z49_S0), .val (.long zz52_S0), .second, .val (.int vi57), .unset, .unset, .unset, .unset, .unset, .unset, .unset] [(.long zz59_S0)])) := by
            intro T60 ls60 X60 N60 e60 zz59_S0 hzz59_S0
            show WP p e below _ (T60.setTop (mkF m 107 #[.val (.long q1), .second, .val (.long q2), .second, .val (.long q3), .second, .val (.int p4), .val (.int z2_S0), .val (.ref b4), .val (.int vi47), .val (.int z49_S0), .val (.long zz52_S0), .second, .val (.int vi57), .unset, .unset, .unset, .unset, .unset, .unset, .unset] [(.long zz59_S0)]))
            refine own_go (fun t_ k => XS.lstore X60.here hx rfl (hb hby at_107) rfl (l' := #[.val (.long q1), .second, .val (.long q2), .second, .val (.long q3), .second, .val (.int p4), .val (.int z2_S0), .val (.ref b4), .val (.int vi47), .val (.int z49_S0), .val (.long zz52_S0), .second, .val (.int vi57), .val (.long zz59_S0), .second, .unset, .unset, .unset, .unset, .unset]) rfl k) ?_
            show WP p e below _ (T60.setTop (mkF m 109 #[.val (.long q1), .second, .val (.long q2), .second, .val (.long q3), .second, .val (.int p4), .val (.int z2_S0), .val (.ref b4), .val (.int vi47), .val (.int z49_S0), .val (.long zz52_S0), .second, .val (.int vi57), .val (.long zz59_S0), .second, .unset, .unset, .unset, .unset, .unset] []))
            refine own_go (fun t_ k => XS.iload X60.here hx rfl (hb hby at_109) rfl k) ?_
            show WP p e below _ (T60.setTop (mkF m 111 #[.val (.long q1), .second, .val (.long q2), .second, .val (.long q3), .second, .val (.int p4), .val (.int z2_S0), .val (.ref b4), .val (.int vi47), .val (.int z49_S0), .val (.long zz52_S0), .second, .val (.int vi57), .val (.long zz59_S0), .second, .unset, .unset, .unset, .unset, .unset] [(.int z2_S0)]))
            have J63 : ∀ (T63 : State) (ls63 : List Loc) (X63 : Stand p l e room_1 s m #[(.long q1), (.long q2), (.long q3), (.int p4)] below meth c T63 ls63 1 2) (N63 : Fr n0 ls63) (e63 : T63.heap = T54.heap) (z62_S0 : Int32) (hz62_S0 : z62_S0 = (if z2_S0 = (0 : Int32) then (1 : Int32) else (if zz52_S0 < zz59_S0 then (1 : Int32) else (0 : Int32)))), WP p e below (GG (Q0 n0) s room_1.cells room_1.slots) (T63.setTop (mkF m 127 #[.val (.long q1), .second, .val (.long q2), .second, .val (.long q3), .second, .val (.int p4), .val (.int z2_S0), .val (.ref b4), .val (.int vi47), .val (.int z49_S0), .val (.long zz52_S0), .second, .val (.int vi57), .val (.long zz59_S0), .second, .unset, .unset, .unset, .unset, .unset] [(.int z62_S0)])) := by
              intro T63 ls63 X63 N63 e63 z62_S0 hz62_S0
              show WP p e below _ (T63.setTop (mkF m 127 #[.val (.long q1), .second, .val (.long q2), .second, .val (.long q3), .second, .val (.int p4), .val (.int z2_S0), .val (.ref b4), .val (.int vi47), .val (.int z49_S0), .val (.long zz52_S0), .second, .val (.int vi57), .val (.long zz59_S0), .second, .unset, .unset, .unset, .unset, .unset] [(.int z62_S0)]))
              refine own_go (fun t_ k => XS.istore X63.here hx rfl (hb hby at_127) rfl (l' := #[.val (.long q1), .second, .val (.long q2), .second, .val (.long q3), .second, .val (.int p4), .val (.int z2_S0), .val (.ref b4), .val (.int vi47), .val (.int z49_S0), .val (.long zz52_S0), .second, .val (.int vi57), .val (.long zz59_S0), .second, .val (.int z62_S0), .unset, .unset, .unset, .unset]) rfl k) ?_
              show WP p e below _ (T63.setTop (mkF m 129 #[.val (.long q1), .second, .val (.long q2), .second, .val (.long q3), .second, .val (.int p4), .val (.int z2_S0), .val (.ref b4), .val (.int vi47), .val (.int z49_S0), .val (.long zz52_S0), .second, .val (.int vi57), .val (.long zz59_S0), .second, .val (.int z62_S0), .unset, .unset, .unset, .unset] []))
              refine own_go (fun t_ k => XS.iload X63.here hx rfl (hb hby at_129) rfl k) ?_
              show WP p e below _ (T63.setTop (mkF m 131 #[.val (.long q1), .second, .val (.long q2), .second, .val (.long q3), .second, .val (.int p4), .val (.int z2_S0), .val (.ref b4), .val (.int vi47), .val (.int z49_S0), .val (.long zz52_S0), .second, .val (.int vi57), .val (.long zz59_S0), .second, .val (.int z62_S0), .unset, .unset, .unset, .unset] [(.int z62_S0)]))
              have J66 : ∀ (T66 : State) (ls66 : List Loc) (X66 : Stand p l e room_1 s m #[(.long q1), (.long q2), (.long q3), (.int p4)] below meth c T66 ls66 1 2) (N66 : Fr n0 ls66) (e66 : T66.heap = T54.heap) (zz65_S0 : Int64) (hzz65_S0 : zz65_S0 = (if z62_S0 = (0 : Int32) then zz52_S0 else zz59_S0)), WP p e below (GG (Q0 n0) s room_1.cells room_1.slots) (T66.setTop (mkF m 141 #[.val (.long q1), .second, .val (.long q2), .second, .val (.long q3), .second, .val (.int p4), .val (.int z2_S0), .val (.ref b4), .val (.int vi47), .val (.int z49_S0), .val (.long zz52_S0), .second, .val (.int vi57), .val (.long zz59_S0), .second, .val (.int z62_S0), .unset, .unset, .unset, .unset] [(.long zz65_S0)])) := by
                intro T66 ls66 X66 N66 e66 zz65_S0 hzz65_S0
                show WP p e below _ (T66.setTop (mkF m 141 #[.val (.long q1), .second, .val (.long q2), .second, .val (.long q3), .second, .val (.int p4), .val (.int z2_S0), .val (.ref b4), .val (.int vi47), .val (.int z49_S0), .val (.long zz52_S0), .second, .val (.int vi57), .val (.long zz59_S0), .second, .val (.int z62_S0), .unset, .unset, .unset, .unset] [(.long zz65_S0)]))
                refine own_go (fun t_ k => XS.lstore X66.here hx rfl (hb hby at_141) rfl (l' := #[.val (.long q1), .second, .val (.long q2), .second, .val (.long q3), .second, .val (.int p4), .val (.int z2_S0), .val (.ref b4), .val (.int vi47), .val (.int z49_S0), .val (.long zz52_S0), .second, .val (.int vi57), .val (.long zz59_S0), .second, .val (.int z62_S0), .val (.long zz65_S0), .second, .unset, .unset]) rfl k) ?_
                show WP p e below _ (T66.setTop (mkF m 143 #[.val (.long q1), .second, .val (.long q2), .second, .val (.long q3), .second, .val (.int p4), .val (.int z2_S0), .val (.ref b4), .val (.int vi47), .val (.int z49_S0), .val (.long zz52_S0), .second, .val (.int vi57), .val (.long zz59_S0), .second, .val (.int z62_S0), .val (.long zz65_S0), .second, .unset, .unset] []))
                refine own_go (fun t_ k => XS.aload X66.here hx rfl (hb hby at_143) rfl rfl k) ?_
                show WP p e below _ (T66.setTop (mkF m 145 #[.val (.long q1), .second, .val (.long q2), .second, .val (.long q3), .second, .val (.int p4), .val (.int z2_S0), .val (.ref b4), .val (.int vi47), .val (.int z49_S0), .val (.long zz52_S0), .second, .val (.int vi57), .val (.long zz59_S0), .second, .val (.int z62_S0), .val (.long zz65_S0), .second, .unset, .unset] [(.ref b4)]))
                refine own_go (fun t_ k => XS.lload X66.here hx rfl (hb hby at_145) rfl k) ?_
                show WP p e below _ (T66.setTop (mkF m 147 #[.val (.long q1), .second, .val (.long q2), .second, .val (.long q3), .second, .val (.int p4), .val (.int z2_S0), .val (.ref b4), .val (.int vi47), .val (.int z49_S0), .val (.long zz52_S0), .second, .val (.int vi57), .val (.long zz59_S0), .second, .val (.int z62_S0), .val (.long zz65_S0), .second, .unset, .unset] [(.long zz59_S0), (.ref b4)]))
                obtain ⟨cq67, kq67, q67a, q67b, q67c⟩ := isOf (T := T66) hZ e66 E54c
                obtain ⟨_, _, ⟨T67, L67, k67, n67⟩, -, X67, ⟨Lc67, hQ67, l67, y67, z67⟩, st67⟩ := X66.virtualBack hx (y := (⟨"com/example/holdfast/holdfast/PastDamage", "takes", "(J)Z"⟩ : MethodName)) (z := (⟨"com/example/holdfast/holdfast/PastDamage", "takes", "(J)Z"⟩ : MethodName)) hown (mvT hZ (hw _ (List.mem_of_getElem? (i := 13) rfl))) (mvT hZ (hw _ (List.mem_of_getElem? (i := 14) rfl))) (notFace_of_selects (args := #[]) (mvT hZ (hw _ (List.mem_of_getElem? (i := 16) rfl)))) (mvT hZ (hw _ (List.mem_of_getElem? (i := 16) rfl))) (mvT hZ (hw _ (List.mem_of_getElem? (i := 15) rfl))) (by decide) (backOf (W := 0) (rm3 l Z a0 hw [] b4 zz59_S0 vj55 vi56 T54.heap n0 E54c g_b4 F54c0 F54c1) hZ (hw _ (List.mem_of_getElem? (i := 17) rfl)) (hw _ (List.mem_of_getElem? (i := 2) rfl)) (by decide) (by decide)) q67a q67c (g := (mkF m 147 #[.val (.long q1), .second, .val (.long q2), .second, .val (.long q3), .second, .val (.int p4), .val (.int z2_S0), .val (.ref b4), .val (.int vi47), .val (.int z49_S0), .val (.long zz52_S0), .second, .val (.int vi57), .val (.long zz59_S0), .second, .val (.int z62_S0), .val (.long zz65_S0), .second, .unset, .unset] [(.long zz59_S0), (.ref b4)])) rfl (by rw [hml]; rfl) (Steps.refl _) (argsL := [(.long zz59_S0)]) (rest := []) (lenOf pd_1 rfl) rfl (by show 2 * 0 + _ ≤ _; exact Nat.le_of_eq rfl) (hb hby at_147) (fun _ _ => ⟨rfl, e66, (by decide : 1 + 0 ≤ _), (by decide : 2 + 0 ≤ _)⟩)
                dsimp only [Pt.U, Pt.locs, Pt.cells, Pt.slots] at X67 l67 y67 z67 st67 hQ67
                subst l67 y67 z67
                obtain ⟨rfl, N67q, K67c, E67c, F67c0, F67c1⟩ := hQ67
                have N67 := Fr.app N66 N67q
                replace X67 : Stand p l e room_1 s m _ below meth c T67 _ 1 2 := X67
                refine own_go (fun t_ k => st67.trans k) ?_
                have K67 : Keep h0 T67.heap [] := K54.trans K67c (allS (Or.inr sz_b4) all0)
                generalize he68 : (f3_last zz59_S0 vj55 vi56) = vj68 at F67c0
                generalize he69 : (f3_doubtFrom zz59_S0 vj55 vi56) = vi69 at F67c1
                show WP p e below _ (T67.setTop (mkF m 150 #[.val (.long q1), .second, .val (.long q2), .second, .val (.long q3), .second, .val (.int p4), .val (.int z2_S0), .val (.ref b4), .val (.int vi47), .val (.int z49_S0), .val (.long zz52_S0), .second, .val (.int vi57), .val (.long zz59_S0), .second, .val (.int z62_S0), .val (.long zz65_S0), .second, .unset, .unset] [(.int (f3 zz59_S0 vj55 vi56))]))
                generalize he70 : (f3 zz59_S0 vj55 vi56) = vi70
                show WP p e below _ (T67.setTop (mkF m 150 #[.val (.long q1), .second, .val (.long q2), .second, .val (.long q3), .second, .val (.int p4), .val (.int z2_S0), .val (.ref b4), .val (.int vi47), .val (.int z49_S0), .val (.long zz52_S0), .second, .val (.int vi57), .val (.long zz59_S0), .second, .val (.int z62_S0), .val (.long zz65_S0), .second, .unset, .unset] [(.int vi70)]))
                refine own_go (fun t_ k => XS.istore X67.here hx rfl (hb hby at_150) rfl (l' := #[.val (.long q1), .second, .val (.long q2), .second, .val (.long q3), .second, .val (.int p4), .val (.int z2_S0), .val (.ref b4), .val (.int vi47), .val (.int z49_S0), .val (.long zz52_S0), .second, .val (.int vi57), .val (.long zz59_S0), .second, .val (.int z62_S0), .val (.long zz65_S0), .second, .val (.int vi70), .unset]) rfl k) ?_
                show WP p e below _ (T67.setTop (mkF m 152 #[.val (.long q1), .second, .val (.long q2), .second, .val (.long q3), .second, .val (.int p4), .val (.int z2_S0), .val (.ref b4), .val (.int vi47), .val (.int z49_S0), .val (.long zz52_S0), .second, .val (.int vi57), .val (.long zz59_S0), .second, .val (.int z62_S0), .val (.long zz65_S0), .second, .val (.int vi70), .unset] []))
                refine own_go (fun t_ k => XS.aload X67.here hx rfl (hb hby at_152) rfl rfl k) ?_
                show WP p e below _ (T67.setTop (mkF m 154 #[.val (.long q1), .second, .val (.long q2), .second, .val (.long q3), .second, .val (.int p4), .val (.int z2_S0), .val (.ref b4), .val (.int vi47), .val (.int z49_S0), .val (.long zz52_S0), .second, .val (.int vi57), .val (.long zz59_S0), .second, .val (.int z62_S0), .val (.long zz65_S0), .second, .val (.int vi70), .unset] [(.ref b4)]))
                refine own_go (fun t_ k => XS.lload X67.here hx rfl (hb hby at_154) rfl k) ?_
                show WP p e below _ (T67.setTop (mkF m 156 #[.val (.long q1), .second, .val (.long q2), .second, .val (.long q3), .second, .val (.int p4), .val (.int z2_S0), .val (.ref b4), .val (.int vi47), .val (.int z49_S0), .val (.long zz52_S0), .second, .val (.int vi57), .val (.long zz59_S0), .second, .val (.int z62_S0), .val (.long zz65_S0), .second, .val (.int vi70), .unset] [(.long zz65_S0), (.ref b4)]))
                refine own_go (fun t_ k => X67.ldc2Long hx hown (mvT hZ (hw _ (List.mem_of_getElem? (i := 18) rfl))) (g := (mkF m 156 #[.val (.long q1), .second, .val (.long q2), .second, .val (.long q3), .second, .val (.int p4), .val (.int z2_S0), .val (.ref b4), .val (.int vi47), .val (.int z49_S0), .val (.long zz52_S0), .second, .val (.int vi57), .val (.long zz59_S0), .second, .val (.int z62_S0), .val (.long zz65_S0), .second, .val (.int vi70), .unset] [(.long zz65_S0), (.ref b4)])) rfl (hb hby at_156) _ k) ?_
                show WP p e below _ (T67.setTop (mkF m 159 #[.val (.long q1), .second, .val (.long q2), .second, .val (.long q3), .second, .val (.int p4), .val (.int z2_S0), .val (.ref b4), .val (.int vi47), .val (.int z49_S0), .val (.long zz52_S0), .second, .val (.int vi57), .val (.long zz59_S0), .second, .val (.int z62_S0), .val (.long zz65_S0), .second, .val (.int vi70), .unset] [(.long (2 : Int64)), (.long zz65_S0), (.ref b4)]))
                refine own_go (fun t_ k => XS.ladd X67.here hx rfl (hb hby at_159) rfl k) ?_
                show WP p e below _ (T67.setTop (mkF m 160 #[.val (.long q1), .second, .val (.long q2), .second, .val (.long q3), .second, .val (.int p4), .val (.int z2_S0), .val (.ref b4), .val (.int vi47), .val (.int z49_S0), .val (.long zz52_S0), .second, .val (.int vi57), .val (.long zz59_S0), .second, .val (.int z62_S0), .val (.long zz65_S0), .second, .val (.int vi70), .unset] [(.long (zz65_S0 + (2 : Int64))), (.ref b4)]))
                refine own_go (fun t_ k => XS.iconst X67.here hx rfl (hb hby at_160) k) ?_
                show WP p e below _ (T67.setTop (mkF m 161 #[.val (.long q1), .second, .val (.long q2), .second, .val (.long q3), .second, .val (.int p4), .val (.int z2_S0), .val (.ref b4), .val (.int vi47), .val (.int z49_S0), .val (.long zz52_S0), .second, .val (.int vi57), .val (.long zz59_S0), .second, .val (.int z62_S0), .val (.long zz65_S0), .second, .val (.int vi70), .unset] [(.int (0 : Int32)), (.long (zz65_S0 + (2 : Int64))), (.ref b4)]))
                obtain ⟨cq71, kq71, q71a, q71b, q71c⟩ := isOf (T := T67) hZ rfl E67c
                obtain ⟨_, _, ⟨T71, L71, k71, n71⟩, -, X71, ⟨Lc71, hQ71, l71, y71, z71⟩, st71⟩ := X67.virtualBack hx (y := (⟨"com/example/holdfast/holdfast/PastDamage", "picksUpAt", "(JI)Z"⟩ : MethodName)) (z := (⟨"com/example/holdfast/holdfast/PastDamage", "picksUpAt", "(JI)Z"⟩ : MethodName)) hown (mvT hZ (hw _ (List.mem_of_getElem? (i := 19) rfl))) (mvT hZ (hw _ (List.mem_of_getElem? (i := 20) rfl))) (notFace_of_selects (args := #[]) (mvT hZ (hw _ (List.mem_of_getElem? (i := 22) rfl)))) (mvT hZ (hw _ (List.mem_of_getElem? (i := 22) rfl))) (mvT hZ (hw _ (List.mem_of_getElem? (i := 21) rfl))) (by decide) (backOf (W := 0) (rm4 l Z a0 hw [] b4 (zz65_S0 + (2 : Int64)) (0 : Int32) vj68 vi69 T67.heap n0 E67c g_b4 F67c0 F67c1) hZ (hw _ (List.mem_of_getElem? (i := 23) rfl)) (hw _ (List.mem_of_getElem? (i := 2) rfl)) (by decide) (by decide)) q71a q71c (g := (mkF m 161 #[.val (.long q1), .second, .val (.long q2), .second, .val (.long q3), .second, .val (.int p4), .val (.int z2_S0), .val (.ref b4), .val (.int vi47), .val (.int z49_S0), .val (.long zz52_S0), .second, .val (.int vi57), .val (.long zz59_S0), .second, .val (.int z62_S0), .val (.long zz65_S0), .second, .val (.int vi70), .unset] [(.int (0 : Int32)), (.long (zz65_S0 + (2 : Int64))), (.ref b4)])) rfl (by rw [hml]; rfl) (Steps.refl _) (argsL := [(.long (zz65_S0 + (2 : Int64))), (.int (0 : Int32))]) (rest := []) (lenOf pd_2 rfl) rfl (by show 2 * 0 + _ ≤ _; exact Nat.le_of_eq rfl) (hb hby at_161) (fun _ _ => ⟨rfl, rfl, (by decide : 1 + 0 ≤ _), (by decide : 2 + 0 ≤ _)⟩)
                dsimp only [Pt.U, Pt.locs, Pt.cells, Pt.slots] at X71 l71 y71 z71 st71 hQ71
                subst l71 y71 z71
                obtain ⟨rfl, N71q, K71c, E71c, F71c0, F71c1⟩ := hQ71
                have N71 := Fr.app N67 N71q
                replace X71 : Stand p l e room_1 s m _ below meth c T71 _ 1 2 := X71
                refine own_go (fun t_ k => st71.trans k) ?_
                have K71 : Keep h0 T71.heap [] := K67.trans K71c (allS (Or.inr sz_b4) all0)
                generalize he72 : (f4_last (zz65_S0 + (2 : Int64)) (0 : Int32) vj68 vi69) = vj72 at F71c0
                generalize he73 : (f4_doubtFrom (zz65_S0 + (2 : Int64)) (0 : Int32) vj68 vi69) = vi73 at F71c1
                show WP p e below _ (T71.setTop (mkF m 164 #[.val (.long q1), .second, .val (.long q2), .second, .val (.long q3), .second, .val (.int p4), .val (.int z2_S0), .val (.ref b4), .val (.int vi47), .val (.int z49_S0), .val (.long zz52_S0), .second, .val (.int vi57), .val (.long zz59_S0), .second, .val (.int z62_S0), .val (.long zz65_S0), .second, .val (.int vi70), .unset] [(.int (f4 (zz65_S0 + (2 : Int64)) (0 : Int32) vj68 vi69))]))
                generalize he74 : (f4 (zz65_S0 + (2 : Int64)) (0 : Int32) vj68 vi69) = vi74
                show WP p e below _ (T71.setTop (mkF m 164 #[.val (.long q1), .second, .val (.long q2), .second, .val (.long q3), .second, .val (.int p4), .val (.int z2_S0), .val (.ref b4), .val (.int vi47), .val (.int z49_S0), .val (.long zz52_S0), .second, .val (.int vi57), .val (.long zz59_S0), .second, .val (.int z62_S0), .val (.long zz65_S0), .second, .val (.int vi70), .unset] [(.int vi74)]))
                refine own_go (fun t_ k => XS.istore X71.here hx rfl (hb hby at_164) rfl (l' := #[.val (.long q1), .second, .val (.long q2), .second, .val (.long q3), .second, .val (.int p4), .val (.int z2_S0), .val (.ref b4), .val (.int vi47), .val (.int z49_S0), .val (.long zz52_S0), .second, .val (.int vi57), .val (.long zz59_S0), .second, .val (.int z62_S0), .val (.long zz65_S0), .second, .val (.int vi70), .val (.int vi74)]) rfl k) ?_
                show WP p e below _ (T71.setTop (mkF m 166 #[.val (.long q1), .second, .val (.long q2), .second, .val (.long q3), .second, .val (.int p4), .val (.int z2_S0), .val (.ref b4), .val (.int vi47), .val (.int z49_S0), .val (.long zz52_S0), .second, .val (.int vi57), .val (.long zz59_S0), .second, .val (.int z62_S0), .val (.long zz65_S0), .second, .val (.int vi70), .val (.int vi74)] []))
                refine own_go (fun t_ k => XS.iload X71.here hx rfl (hb hby at_166) rfl k) ?_
                show WP p e below _ (T71.setTop (mkF m 168 #[.val (.long q1), .second, .val (.long q2), .second, .val (.long q3), .second, .val (.int p4), .val (.int z2_S0), .val (.ref b4), .val (.int vi47), .val (.int z49_S0), .val (.long zz52_S0), .second, .val (.int vi57), .val (.long zz59_S0), .second, .val (.int z62_S0), .val (.long zz65_S0), .second, .val (.int vi70), .val (.int vi74)] [(.int vi47)]))
                have J77 : ∀ (T77 : State) (ls77 : List Loc) (X77 : Stand p l e room_1 s m #[(.long q1), (.long q2), (.long q3), (.int p4)] below meth c T77 ls77 1 2) (N77 : Fr n0 ls77) (e77 : T77.heap = T71.heap) (z76_S0 : Int32) (hz76_S0 : z76_S0 = (if vi47 = (0 : Int32) then (0 : Int32) else (if vi57 = z49_S0 then (if vi70 = z62_S0 then (if vi74 = (0 : Int32) then (0 : Int32) else (1 : Int32)) else (0 : Int32)) else (0 : Int32)))), WP p e below (GG (Q0 n0) s room_1.cells room_1.slots) (T77.setTop (mkF m 195 #[.val (.long q1), .second, .val (.long q2), .second, .val (.long q3), .second, .val (.int p4), .val (.int z2_S0), .val (.ref b4), .val (.int vi47), .val (.int z49_S0), .val (.long zz52_S0), .second, .val (.int vi57), .val (.long zz59_S0), .second, .val (.int z62_S0), .val (.long zz65_S0), .second, .val (.int vi70), .val (.int vi74)] [(.int z76_S0)])) := by
                  intro T77 ls77 X77 N77 e77 z76_S0 hz76_S0
                  show WP p e below _ (T77.setTop (mkF m 195 #[.val (.long q1), .second, .val (.long q2), .second, .val (.long q3), .second, .val (.int p4), .val (.int z2_S0), .val (.ref b4), .val (.int vi47), .val (.int z49_S0), .val (.long zz52_S0), .second, .val (.int vi57), .val (.long zz59_S0), .second, .val (.int z62_S0), .val (.long zz65_S0), .second, .val (.int vi70), .val (.int vi74)] [(.int z76_S0)]))
                  exact own_retZ X77 hx Bd.notSynchronized Bd.returns (hb hby at_195) (by rw [hz76_S0]; (repeat' split); all_goals first | exact Or.inl rfl | exact Or.inr rfl) (show Q0 n0 _ _ _ from ⟨congrArg (fun z => some (Value.int z)) (own_law_2 hz2_S0 he6 he7 he45 he46 he47 hz49_S0 hzz52_S0 he55 he56 he57 hzz59_S0 hz62_S0 hzz65_S0 he68 he69 he70 he72 he73 he74 hz76_S0 hc29_8), N77⟩) (by decide) (by decide)
                by_cases hc168_75 : vi47 = (0 : Int32)
                · refine own_go (fun t_ k => XS.ifYes X71.here hx rfl (pc0 := 168) (pc' := 194) rfl (hb hby at_168) rfl ((if0 _ _).trans (teq hc168_75).1) (by decide) (by decide) k) ?_
                  show WP p e below _ (T71.setTop (mkF m 194 #[.val (.long q1), .second, .val (.long q2), .second, .val (.long q3), .second, .val (.int p4), .val (.int z2_S0), .val (.ref b4), .val (.int vi47), .val (.int z49_S0), .val (.long zz52_S0), .second, .val (.int vi57), .val (.long zz59_S0), .second, .val (.int z62_S0), .val (.long zz65_S0), .second, .val (.int vi70), .val (.int vi74)] []))
                  refine own_go (fun t_ k => XS.iconst X71.here hx rfl (hb hby at_194) k) ?_
                  show WP p e below _ (T71.setTop (mkF m 195 #[.val (.long q1), .second, .val (.long q2), .second, .val (.long q3), .second, .val (.int p4), .val (.int z2_S0), .val (.ref b4), .val (.int vi47), .val (.int z49_S0), .val (.long zz52_S0), .second, .val (.int vi57), .val (.long zz59_S0), .second, .val (.int z62_S0), .val (.long zz65_S0), .second, .val (.int vi70), .val (.int vi74)] [(.int (0 : Int32))]))
                  exact J77 T71 _ X71 N71 rfl _ (by rw [if_pos hc168_75])
                · refine own_go (fun t_ k => XS.ifNo X71.here hx rfl (hb hby at_168) rfl ((if0 _ _).trans (feq hc168_75).1) k) ?_
                  show WP p e below _ (T71.setTop (mkF m 171 #[.val (.long q1), .second, .val (.long q2), .second, .val (.long q3), .second, .val (.int p4), .val (.int z2_S0), .val (.ref b4), .val (.int vi47), .val (.int z49_S0), .val (.long zz52_S0), .second, .val (.int vi57), .val (.long zz59_S0), .second, .val (.int z62_S0), .val (.long zz65_S0), .second, .val (.int vi70), .val (.int vi74)] []))
                  refine own_go (fun t_ k => XS.iload X71.here hx rfl (hb hby at_171) rfl k) ?_
                  show WP p e below _ (T71.setTop (mkF m 173 #[.val (.long q1), .second, .val (.long q2), .second, .val (.long q3), .second, .val (.int p4), .val (.int z2_S0), .val (.ref b4), .val (.int vi47), .val (.int z49_S0), .val (.long zz52_S0), .second, .val (.int vi57), .val (.long zz59_S0), .second, .val (.int z62_S0), .val (.long zz65_S0), .second, .val (.int vi70), .val (.int vi74)] [(.int vi57)]))
                  refine own_go (fun t_ k => XS.iload X71.here hx rfl (hb hby at_173) rfl k) ?_
                  show WP p e below _ (T71.setTop (mkF m 175 #[.val (.long q1), .second, .val (.long q2), .second, .val (.long q3), .second, .val (.int p4), .val (.int z2_S0), .val (.ref b4), .val (.int vi47), .val (.int z49_S0), .val (.long zz52_S0), .second, .val (.int vi57), .val (.long zz59_S0), .second, .val (.int z62_S0), .val (.long zz65_S0), .second, .val (.int vi70), .val (.int vi74)] [(.int z49_S0), (.int vi57)]))
                  by_cases hc175_78 : vi57 = z49_S0
                  · refine own_go (fun t_ k => XS.icmpNo X71.here hx rfl (hb hby at_175) rfl (teq hc175_78).2 k) ?_
                    show WP p e below _ (T71.setTop (mkF m 178 #[.val (.long q1), .second, .val (.long q2), .second, .val (.long q3), .second, .val (.int p4), .val (.int z2_S0), .val (.ref b4), .val (.int vi47), .val (.int z49_S0), .val (.long zz52_S0), .second, .val (.int vi57), .val (.long zz59_S0), .second, .val (.int z62_S0), .val (.long zz65_S0), .second, .val (.int vi70), .val (.int vi74)] []))
                    refine own_go (fun t_ k => XS.iload X71.here hx rfl (hb hby at_178) rfl k) ?_
                    show WP p e below _ (T71.setTop (mkF m 180 #[.val (.long q1), .second, .val (.long q2), .second, .val (.long q3), .second, .val (.int p4), .val (.int z2_S0), .val (.ref b4), .val (.int vi47), .val (.int z49_S0), .val (.long zz52_S0), .second, .val (.int vi57), .val (.long zz59_S0), .second, .val (.int z62_S0), .val (.long zz65_S0), .second, .val (.int vi70), .val (.int vi74)] [(.int vi70)]))
                    refine own_go (fun t_ k => XS.iload X71.here hx rfl (hb hby at_180) rfl k) ?_
                    show WP p e below _ (T71.setTop (mkF m 182 #[.val (.long q1), .second, .val (.long q2), .second, .val (.long q3), .second, .val (.int p4), .val (.int z2_S0), .val (.ref b4), .val (.int vi47), .val (.int z49_S0), .val (.long zz52_S0), .second, .val (.int vi57), .val (.long zz59_S0), .second, .val (.int z62_S0), .val (.long zz65_S0), .second, .val (.int vi70), .val (.int vi74)] [(.int z62_S0), (.int vi70)]))
                    by_cases hc182_79 : vi70 = z62_S0
                    · refine own_go (fun t_ k => XS.icmpNo X71.here hx rfl (hb hby at_182) rfl (teq hc182_79).2 k) ?_
                      show WP p e below _ (T71.setTop (mkF m 185 #[.val (.long q1), .second, .val (.long q2), .second, .val (.long q3), .second, .val (.int p4), .val (.int z2_S0), .val (.ref b4), .val (.int vi47), .val (.int z49_S0), .val (.long zz52_S0), .second, .val (.int vi57), .val (.long zz59_S0), .second, .val (.int z62_S0), .val (.long zz65_S0), .second, .val (.int vi70), .val (.int vi74)] []))
                      refine own_go (fun t_ k => XS.iload X71.here hx rfl (hb hby at_185) rfl k) ?_
                      show WP p e below _ (T71.setTop (mkF m 187 #[.val (.long q1), .second, .val (.long q2), .second, .val (.long q3), .second, .val (.int p4), .val (.int z2_S0), .val (.ref b4), .val (.int vi47), .val (.int z49_S0), .val (.long zz52_S0), .second, .val (.int vi57), .val (.long zz59_S0), .second, .val (.int z62_S0), .val (.long zz65_S0), .second, .val (.int vi70), .val (.int vi74)] [(.int vi74)]))
                      by_cases hc187_80 : vi74 = (0 : Int32)
                      · refine own_go (fun t_ k => XS.ifYes X71.here hx rfl (pc0 := 187) (pc' := 194) rfl (hb hby at_187) rfl ((if0 _ _).trans (teq hc187_80).1) (by decide) (by decide) k) ?_
                        show WP p e below _ (T71.setTop (mkF m 194 #[.val (.long q1), .second, .val (.long q2), .second, .val (.long q3), .second, .val (.int p4), .val (.int z2_S0), .val (.ref b4), .val (.int vi47), .val (.int z49_S0), .val (.long zz52_S0), .second, .val (.int vi57), .val (.long zz59_S0), .second, .val (.int z62_S0), .val (.long zz65_S0), .second, .val (.int vi70), .val (.int vi74)] []))
                        refine own_go (fun t_ k => XS.iconst X71.here hx rfl (hb hby at_194) k) ?_
                        show WP p e below _ (T71.setTop (mkF m 195 #[.val (.long q1), .second, .val (.long q2), .second, .val (.long q3), .second, .val (.int p4), .val (.int z2_S0), .val (.ref b4), .val (.int vi47), .val (.int z49_S0), .val (.long zz52_S0), .second, .val (.int vi57), .val (.long zz59_S0), .second, .val (.int z62_S0), .val (.long zz65_S0), .second, .val (.int vi70), .val (.int vi74)] [(.int (0 : Int32))]))
                        exact J77 T71 _ X71 N71 rfl _ (by rw [if_neg hc168_75, if_pos hc175_78, if_pos hc182_79, if_pos hc187_80])
                      · refine own_go (fun t_ k => XS.ifNo X71.here hx rfl (hb hby at_187) rfl ((if0 _ _).trans (feq hc187_80).1) k) ?_
                        show WP p e below _ (T71.setTop (mkF m 190 #[.val (.long q1), .second, .val (.long q2), .second, .val (.long q3), .second, .val (.int p4), .val (.int z2_S0), .val (.ref b4), .val (.int vi47), .val (.int z49_S0), .val (.long zz52_S0), .second, .val (.int vi57), .val (.long zz59_S0), .second, .val (.int z62_S0), .val (.long zz65_S0), .second, .val (.int vi70), .val (.int vi74)] []))
                        refine own_go (fun t_ k => XS.iconst X71.here hx rfl (hb hby at_190) k) ?_
                        show WP p e below _ (T71.setTop (mkF m 191 #[.val (.long q1), .second, .val (.long q2), .second, .val (.long q3), .second, .val (.int p4), .val (.int z2_S0), .val (.ref b4), .val (.int vi47), .val (.int z49_S0), .val (.long zz52_S0), .second, .val (.int vi57), .val (.long zz59_S0), .second, .val (.int z62_S0), .val (.long zz65_S0), .second, .val (.int vi70), .val (.int vi74)] [(.int (1 : Int32))]))
                        refine own_go (fun t_ k => XS.goto X71.here hx rfl (pc0 := 191) (pc' := 195) rfl (hb hby at_191) (by decide) (by decide) k) ?_
                        show WP p e below _ (T71.setTop (mkF m 195 #[.val (.long q1), .second, .val (.long q2), .second, .val (.long q3), .second, .val (.int p4), .val (.int z2_S0), .val (.ref b4), .val (.int vi47), .val (.int z49_S0), .val (.long zz52_S0), .second, .val (.int vi57), .val (.long zz59_S0), .second, .val (.int z62_S0), .val (.long zz65_S0), .second, .val (.int vi70), .val (.int vi74)] [(.int (1 : Int32))]))
                        exact J77 T71 _ X71 N71 rfl _ (by rw [if_neg hc168_75, if_pos hc175_78, if_pos hc182_79, if_neg hc187_80])
                    · refine own_go (fun t_ k => XS.icmpYes X71.here hx rfl (pc0 := 182) (pc' := 194) rfl (hb hby at_182) rfl (feq hc182_79).2 (by decide) (by decide) k) ?_
                      show WP p e below _ (T71.setTop (mkF m 194 #[.val (.long q1), .second, .val (.long q2), .second, .val (.long q3), .second, .val (.int p4), .val (.int z2_S0), .val (.ref b4), .val (.int vi47), .val (.int z49_S0), .val (.long zz52_S0), .second, .val (.int vi57), .val (.long zz59_S0), .second, .val (.int z62_S0), .val (.long zz65_S0), .second, .val (.int vi70), .val (.int vi74)] []))
                      refine own_go (fun t_ k => XS.iconst X71.here hx rfl (hb hby at_194) k) ?_
                      show WP p e below _ (T71.setTop (mkF m 195 #[.val (.long q1), .second, .val (.long q2), .second, .val (.long q3), .second, .val (.int p4), .val (.int z2_S0), .val (.ref b4), .val (.int vi47), .val (.int z49_S0), .val (.long zz52_S0), .second, .val (.int vi57), .val (.long zz59_S0), .second, .val (.int z62_S0), .val (.long zz65_S0), .second, .val (.int vi70), .val (.int vi74)] [(.int (0 : Int32))]))
                      exact J77 T71 _ X71 N71 rfl _ (by rw [if_neg hc168_75, if_pos hc175_78, if_neg hc182_79])
                  · refine own_go (fun t_ k => XS.icmpYes X71.here hx rfl (pc0 := 175) (pc' := 194) rfl (hb hby at_175) rfl (feq hc175_78).2 (by decide) (by decide) k) ?_
                    show WP p e below _ (T71.setTop (mkF m 194 #[.val (.long q1), .second, .val (.long q2), .second, .val (.long q3), .second, .val (.int p4), .val (.int z2_S0), .val (.ref b4), .val (.int vi47), .val (.int z49_S0), .val (.long zz52_S0), .second, .val (.int vi57), .val (.long zz59_S0), .second, .val (.int z62_S0), .val (.long zz65_S0), .second, .val (.int vi70), .val (.int vi74)] []))
                    refine own_go (fun t_ k => XS.iconst X71.here hx rfl (hb hby at_194) k) ?_
                    show WP p e below _ (T71.setTop (mkF m 195 #[.val (.long q1), .second, .val (.long q2), .second, .val (.long q3), .second, .val (.int p4), .val (.int z2_S0), .val (.ref b4), .val (.int vi47), .val (.int z49_S0), .val (.long zz52_S0), .second, .val (.int vi57), .val (.long zz59_S0), .second, .val (.int z62_S0), .val (.long zz65_S0), .second, .val (.int vi70), .val (.int vi74)] [(.int (0 : Int32))]))
                    exact J77 T71 _ X71 N71 rfl _ (by rw [if_neg hc168_75, if_neg hc175_78])
              by_cases hc131_64 : z62_S0 = (0 : Int32)
              · refine own_go (fun t_ k => XS.ifYes X63.here hx rfl (pc0 := 131) (pc' := 139) rfl (hb hby at_131) rfl ((if0 _ _).trans (teq hc131_64).1) (by decide) (by decide) k) ?_
                show WP p e below _ (T63.setTop (mkF m 139 #[.val (.long q1), .second, .val (.long q2), .second, .val (.long q3), .second, .val (.int p4), .val (.int z2_S0), .val (.ref b4), .val (.int vi47), .val (.int z49_S0), .val (.long zz52_S0), .second, .val (.int vi57), .val (.long zz59_S0), .second, .val (.int z62_S0), .unset, .unset, .unset, .unset] []))
                refine own_go (fun t_ k => XS.lload X63.here hx rfl (hb hby at_139) rfl k) ?_
                show WP p e below _ (T63.setTop (mkF m 141 #[.val (.long q1), .second, .val (.long q2), .second, .val (.long q3), .second, .val (.int p4), .val (.int z2_S0), .val (.ref b4), .val (.int vi47), .val (.int z49_S0), .val (.long zz52_S0), .second, .val (.int vi57), .val (.long zz59_S0), .second, .val (.int z62_S0), .unset, .unset, .unset, .unset] [(.long zz52_S0)]))
                exact J66 T63 _ X63 N63 e63 _ (by rw [if_pos hc131_64])
              · refine own_go (fun t_ k => XS.ifNo X63.here hx rfl (hb hby at_131) rfl ((if0 _ _).trans (feq hc131_64).1) k) ?_
                show WP p e below _ (T63.setTop (mkF m 134 #[.val (.long q1), .second, .val (.long q2), .second, .val (.long q3), .second, .val (.int p4), .val (.int z2_S0), .val (.ref b4), .val (.int vi47), .val (.int z49_S0), .val (.long zz52_S0), .second, .val (.int vi57), .val (.long zz59_S0), .second, .val (.int z62_S0), .unset, .unset, .unset, .unset] []))
                refine own_go (fun t_ k => XS.lload X63.here hx rfl (hb hby at_134) rfl k) ?_
                show WP p e below _ (T63.setTop (mkF m 136 #[.val (.long q1), .second, .val (.long q2), .second, .val (.long q3), .second, .val (.int p4), .val (.int z2_S0), .val (.ref b4), .val (.int vi47), .val (.int z49_S0), .val (.long zz52_S0), .second, .val (.int vi57), .val (.long zz59_S0), .second, .val (.int z62_S0), .unset, .unset, .unset, .unset] [(.long zz59_S0)]))
                refine own_go (fun t_ k => XS.goto X63.here hx rfl (pc0 := 136) (pc' := 141) rfl (hb hby at_136) (by decide) (by decide) k) ?_
                show WP p e below _ (T63.setTop (mkF m 141 #[.val (.long q1), .second, .val (.long q2), .second, .val (.long q3), .second, .val (.int p4), .val (.int z2_S0), .val (.ref b4), .val (.int vi47), .val (.int z49_S0), .val (.long zz52_S0), .second, .val (.int vi57), .val (.long zz59_S0), .second, .val (.int z62_S0), .unset, .unset, .unset, .unset] [(.long zz59_S0)]))
                exact J66 T63 _ X63 N63 e63 _ (by rw [if_neg hc131_64])
            by_cases hc111_61 : z2_S0 = (0 : Int32)
            · refine own_go (fun t_ k => XS.ifYes X60.here hx rfl (pc0 := 111) (pc' := 122) rfl (hb hby at_111) rfl ((if0 _ _).trans (teq hc111_61).1) (by decide) (by decide) k) ?_
              show WP p e below _ (T60.setTop (mkF m 122 #[.val (.long q1), .second, .val (.long q2), .second, .val (.long q3), .second, .val (.int p4), .val (.int z2_S0), .val (.ref b4), .val (.int vi47), .val (.int z49_S0), .val (.long zz52_S0), .second, .val (.int vi57), .val (.long zz59_S0), .second, .unset, .unset, .unset, .unset, .unset] []))
              refine own_go (fun t_ k => XS.iconst X60.here hx rfl (hb hby at_122) k) ?_
              show WP p e below _ (T60.setTop (mkF m 123 #[.val (.long q1), .second, .val (.long q2), .second, .val (.long q3), .second, .val (.int p4), .val (.int z2_S0), .val (.ref b4), .val (.int vi47), .val (.int z49_S0), .val (.long zz52_S0), .second, .val (.int vi57), .val (.long zz59_S0), .second, .unset, .unset, .unset, .unset, .unset] [(.int (1 : Int32))]))
              refine own_go (fun t_ k => XS.goto X60.here hx rfl (pc0 := 123) (pc' := 127) rfl (hb hby at_123) (by decide) (by decide) k) ?_
              show WP p e below _ (T60.setTop (mkF m 127 #[.val (.long q1), .second, .val (.long q2), .second, .val (.long q3), .second, .val (.int p4), .val (.int z2_S0), .val (.ref b4), .val (.int vi47), .val (.int z49_S0), .val (.long zz52_S0), .second, .val (.int vi57), .val (.long zz59_S0), .second, .unset, .unset, .unset, .unset, .unset] [(.int (1 : Int32))]))
              exact J63 T60 _ X60 N60 e60 _ (by rw [if_pos hc111_61])
            · refine own_go (fun t_ k => XS.ifNo X60.here hx rfl (hb hby at_111) rfl ((if0 _ _).trans (feq hc111_61).1) k) ?_
              show WP p e below _ (T60.setTop (mkF m 114 #[.val (.long q1), .second, .val (.long q2), .second, .val (.long q3), .second, .val (.int p4), .val (.int z2_S0), .val (.ref b4), .val (.int vi47), .val (.int z49_S0), .val (.long zz52_S0), .second, .val (.int vi57), .val (.long zz59_S0), .second, .unset, .unset, .unset, .unset, .unset] []))
              refine own_go (fun t_ k => XS.lload X60.here hx rfl (hb hby at_114) rfl k) ?_
              show WP p e below _ (T60.setTop (mkF m 116 #[.val (.long q1), .second, .val (.long q2), .second, .val (.long q3), .second, .val (.int p4), .val (.int z2_S0), .val (.ref b4), .val (.int vi47), .val (.int z49_S0), .val (.long zz52_S0), .second, .val (.int vi57), .val (.long zz59_S0), .second, .unset, .unset, .unset, .unset, .unset] [(.long zz59_S0)]))
              refine own_go (fun t_ k => XS.lload X60.here hx rfl (hb hby at_116) rfl k) ?_
              show WP p e below _ (T60.setTop (mkF m 118 #[.val (.long q1), .second, .val (.long q2), .second, .val (.long q3), .second, .val (.int p4), .val (.int z2_S0), .val (.ref b4), .val (.int vi47), .val (.int z49_S0), .val (.long zz52_S0), .second, .val (.int vi57), .val (.long zz59_S0), .second, .unset, .unset, .unset, .unset, .unset] [(.long zz52_S0), (.long zz59_S0)]))
              refine own_go (fun t_ k => XS.lcmp X60.here hx rfl (hb hby at_118) rfl k) ?_
              show WP p e below _ (T60.setTop (mkF m 119 #[.val (.long q1), .second, .val (.long q2), .second, .val (.long q3), .second, .val (.int p4), .val (.int z2_S0), .val (.ref b4), .val (.int vi47), .val (.int z49_S0), .val (.long zz52_S0), .second, .val (.int vi57), .val (.long zz59_S0), .second, .unset, .unset, .unset, .unset, .unset] [(.int (lcmpW zz59_S0 zz52_S0))]))
              by_cases hc119_81 : zz52_S0 < zz59_S0
              · refine own_go (fun t_ k => XS.ifNo X60.here hx rfl (hb hby at_119) rfl ((if0 _ _).trans (tlt ((lw_gt _ _).mpr hc119_81)).2.2.2) k) ?_
                show WP p e below _ (T60.setTop (mkF m 122 #[.val (.long q1), .second, .val (.long q2), .second, .val (.long q3), .second, .val (.int p4), .val (.int z2_S0), .val (.ref b4), .val (.int vi47), .val (.int z49_S0), .val (.long zz52_S0), .second, .val (.int vi57), .val (.long zz59_S0), .second, .unset, .unset, .unset, .unset, .unset] []))
                refine own_go (fun t_ k => XS.iconst X60.here hx rfl (hb hby at_122) k) ?_
                show WP p e below _ (T60.setTop (mkF m 123 #[.val (.long q1), .second, .val (.long q2), .second, .val (.long q3), .second, .val (.int p4), .val (.int z2_S0), .val (.ref b4), .val (.int vi47), .val (.int z49_S0), .val (.long zz52_S0), .second, .val (.int vi57), .val (.long zz59_S0), .second, .unset, .unset, .unset, .unset, .unset] [(.int (1 : Int32))]))
                refine own_go (fun t_ k => XS.goto X60.here hx rfl (pc0 := 123) (pc' := 127) rfl (hb hby at_123) (by decide) (by decide) k) ?_
                show WP p e below _ (T60.setTop (mkF m 127 #[.val (.long q1), .second, .val (.long q2), .second, .val (.long q3), .second, .val (.int p4), .val (.int z2_S0), .val (.ref b4), .val (.int vi47), .val (.int z49_S0), .val (.long zz52_S0), .second, .val (.int vi57), .val (.long zz59_S0), .second, .unset, .unset, .unset, .unset, .unset] [(.int (1 : Int32))]))
                exact J63 T60 _ X60 N60 e60 _ (by rw [if_neg hc111_61, if_pos hc119_81])
              · refine own_go (fun t_ k => XS.ifYes X60.here hx rfl (pc0 := 119) (pc' := 126) rfl (hb hby at_119) rfl ((if0 _ _).trans (flt (mt (lw_gt _ _).mp hc119_81)).2.2.2) (by decide) (by decide) k) ?_
                show WP p e below _ (T60.setTop (mkF m 126 #[.val (.long q1), .second, .val (.long q2), .second, .val (.long q3), .second, .val (.int p4), .val (.int z2_S0), .val (.ref b4), .val (.int vi47), .val (.int z49_S0), .val (.long zz52_S0), .second, .val (.int vi57), .val (.long zz59_S0), .second, .unset, .unset, .unset, .unset, .unset] []))
                refine own_go (fun t_ k => XS.iconst X60.here hx rfl (hb hby at_126) k) ?_
                show WP p e below _ (T60.setTop (mkF m 127 #[.val (.long q1), .second, .val (.long q2), .second, .val (.long q3), .second, .val (.int p4), .val (.int z2_S0), .val (.ref b4), .val (.int vi47), .val (.int z49_S0), .val (.long zz52_S0), .second, .val (.int vi57), .val (.long zz59_S0), .second, .unset, .unset, .unset, .unset, .unset] [(.int (0 : Int32))]))
                exact J63 T60 _ X60 N60 e60 _ (by rw [if_neg hc111_61, if_neg hc119_81])
          by_cases hc87_58 : (p4 &&& (2 : Int32)) = (0 : Int32)
          · refine own_go (fun t_ k => XS.ifYes X54.here hx rfl (pc0 := 87) (pc' := 95) rfl (hb hby at_87) rfl ((if0 _ _).trans (teq hc87_58).1) (by decide) (by decide) k) ?_
            show WP p e below _ (T54.setTop (mkF m 95 #[.val (.long q1), .second, .val (.long q2), .second, .val (.long q3), .second, .val (.int p4), .val (.int z2_S0), .val (.ref b4), .val (.int vi47), .val (.int z49_S0), .val (.long zz52_S0), .second, .val (.int vi57), .unset, .unset, .unset, .unset, .unset, .unset, .unset] []))
            refine own_go (fun t_ k => XS.lload X54.here hx rfl (hb hby at_95) rfl k) ?_
            show WP p e below _ (T54.setTop (mkF m 97 #[.val (.long q1), .second, .val (.long q2), .second, .val (.long q3), .second, .val (.int p4), .val (.int z2_S0), .val (.ref b4), .val (.int vi47), .val (.int z49_S0), .val (.long zz52_S0), .second, .val (.int vi57), .unset, .unset, .unset, .unset, .unset, .unset, .unset] [(.long zz52_S0)]))
            refine own_go (fun t_ k => XS.iload X54.here hx rfl (hb hby at_97) rfl k) ?_
            show WP p e below _ (T54.setTop (mkF m 99 #[.val (.long q1), .second, .val (.long q2), .second, .val (.long q3), .second, .val (.int p4), .val (.int z2_S0), .val (.ref b4), .val (.int vi47), .val (.int z49_S0), .val (.long zz52_S0), .second, .val (.int vi57), .unset, .unset, .unset, .unset, .unset, .unset, .unset] [(.int p4), (.long zz52_S0)]))
            refine own_go (fun t_ k => XS.iconst X54.here hx rfl (hb hby at_99) k) ?_
            show WP p e below _ (T54.setTop (mkF m 100 #[.val (.long q1), .second, .val (.long q2), .second, .val (.long q3), .second, .val (.int p4), .val (.int z2_S0), .val (.ref b4), .val (.int vi47), .val (.int z49_S0), .val (.long zz52_S0), .second, .val (.int vi57), .unset, .unset, .unset, .unset, .unset, .unset, .unset] [(.int (2 : Int32)), (.int p4), (.long zz52_S0)]))
            refine own_go (fun t_ k => XS.ishr X54.here hx rfl (hb hby at_100) rfl k) ?_
            show WP p e below _ (T54.setTop (mkF m 101 #[.val (.long q1), .second, .val (.long q2), .second, .val (.long q3), .second, .val (.int p4), .val (.int z2_S0), .val (.ref b4), .val (.int vi47), .val (.int z49_S0), .val (.long zz52_S0), .second, .val (.int vi57), .unset, .unset, .unset, .unset, .unset, .unset, .unset] [(.int (p4 >>> ((2 : Int32) &&& 31))), (.long zz52_S0)]))
            refine own_go (fun t_ k => XS.iconst X54.here hx rfl (hb hby at_101) k) ?_
            show WP p e below _ (T54.setTop (mkF m 102 #[.val (.long q1), .second, .val (.long q2), .second, .val (.long q3), .second, .val (.int p4), .val (.int z2_S0), .val (.ref b4), .val (.int vi47), .val (.int z49_S0), .val (.long zz52_S0), .second, .val (.int vi57), .unset, .unset, .unset, .unset, .unset, .unset, .unset] [(.int (3 : Int32)), (.int (p4 >>> ((2 : Int32) &&& 31))), (.long zz52_S0)]))
            refine own_go (fun t_ k => XS.iand X54.here hx rfl (hb hby at_102) rfl k) ?_
            show WP p e below _ (T54.setTop (mkF m 103 #[.val (.long q1), .second, .val (.long q2), .second, .val (.long q3), .second, .val (.int p4), .val (.int z2_S0), .val (.ref b4), .val (.int vi47), .val (.int z49_S0), .val (.long zz52_S0), .second, .val (.int vi57), .unset, .unset, .unset, .unset, .unset, .unset, .unset] [(.int ((p4 >>> ((2 : Int32) &&& 31)) &&& (3 : Int32))), (.long zz52_S0)]))
            refine own_go (fun t_ k => XS.iconst X54.here hx rfl (hb hby at_103) k) ?_
            show WP p e below _ (T54.setTop (mkF m 104 #[.val (.long q1), .second, .val (.long q2), .second, .val (.long q3), .second, .val (.int p4), .val (.int z2_S0), .val (.ref b4), .val (.int vi47), .val (.int z49_S0), .val (.long zz52_S0), .second, .val (.int vi57), .unset, .unset, .unset, .unset, .unset, .unset, .unset] [(.int (1 : Int32)), (.int ((p4 >>> ((2 : Int32) &&& 31)) &&& (3 : Int32))), (.long zz52_S0)]))
            refine own_go (fun t_ k => XS.isub X54.here hx rfl (hb hby at_104) rfl k) ?_
            show WP p e below _ (T54.setTop (mkF m 105 #[.val (.long q1), .second, .val (.long q2), .second, .val (.long q3), .second, .val (.int p4), .val (.int z2_S0), .val (.ref b4), .val (.int vi47), .val (.int z49_S0), .val (.long zz52_S0), .second, .val (.int vi57), .unset, .unset, .unset, .unset, .unset, .unset, .unset] [(.int (((p4 >>> ((2 : Int32) &&& 31)) &&& (3 : Int32)) - (1 : Int32))), (.long zz52_S0)]))
            refine own_go (fun t_ k => XS.i2l X54.here hx rfl (hb hby at_105) rfl k) ?_
            show WP p e below _ (T54.setTop (mkF m 106 #[.val (.long q1), .second, .val (.long q2), .second, .val (.long q3), .second, .val (.int p4), .val (.int z2_S0), .val (.ref b4), .val (.int vi47), .val (.int z49_S0), .val (.long zz52_S0), .second, .val (.int vi57), .unset, .unset, .unset, .unset, .unset, .unset, .unset] [(.long ((((p4 >>> ((2 : Int32) &&& 31)) &&& (3 : Int32)) - (1 : Int32)).toInt64)), (.long zz52_S0)]))
            refine own_go (fun t_ k => XS.ladd X54.here hx rfl (hb hby at_106) rfl k) ?_
            show WP p e below _ (T54.setTop (mkF m 107 #[.val (.long q1), .second, .val (.long q2), .second, .val (.long q3), .second, .val (.int p4), .val (.int z2_S0), .val (.ref b4), .val (.int vi47), .val (.int z49_S0), .val (.long zz52_S0), .second, .val (.int vi57), .unset, .unset, .unset, .unset, .unset, .unset, .unset] [(.long (zz52_S0 + ((((p4 >>> ((2 : Int32) &&& 31)) &&& (3 : Int32)) - (1 : Int32)).toInt64)))]))
            exact J60 T54 _ X54 N54 rfl _ (by rw [if_pos hc87_58])
          · refine own_go (fun t_ k => XS.ifNo X54.here hx rfl (hb hby at_87) rfl ((if0 _ _).trans (feq hc87_58).1) k) ?_
            show WP p e below _ (T54.setTop (mkF m 90 #[.val (.long q1), .second, .val (.long q2), .second, .val (.long q3), .second, .val (.int p4), .val (.int z2_S0), .val (.ref b4), .val (.int vi47), .val (.int z49_S0), .val (.long zz52_S0), .second, .val (.int vi57), .unset, .unset, .unset, .unset, .unset, .unset, .unset] []))
            refine own_go (fun t_ k => XS.lload X54.here hx rfl (hb hby at_90) rfl k) ?_
            show WP p e below _ (T54.setTop (mkF m 92 #[.val (.long q1), .second, .val (.long q2), .second, .val (.long q3), .second, .val (.int p4), .val (.int z2_S0), .val (.ref b4), .val (.int vi47), .val (.int z49_S0), .val (.long zz52_S0), .second, .val (.int vi57), .unset, .unset, .unset, .unset, .unset, .unset, .unset] [(.long q3)]))
            refine own_go (fun t_ k => XS.goto X54.here hx rfl (pc0 := 92) (pc' := 107) rfl (hb hby at_92) (by decide) (by decide) k) ?_
            show WP p e below _ (T54.setTop (mkF m 107 #[.val (.long q1), .second, .val (.long q2), .second, .val (.long q3), .second, .val (.int p4), .val (.int z2_S0), .val (.ref b4), .val (.int vi47), .val (.int z49_S0), .val (.long zz52_S0), .second, .val (.int vi57), .unset, .unset, .unset, .unset, .unset, .unset, .unset] [(.long q3)]))
            exact J60 T54 _ X54 N54 rfl _ (by rw [if_neg hc87_58])
        by_cases hc65_51 : z49_S0 = (0 : Int32)
        · refine own_go (fun t_ k => XS.ifYes X50.here hx rfl (pc0 := 65) (pc' := 72) rfl (hb hby at_65) rfl ((if0 _ _).trans (teq hc65_51).1) (by decide) (by decide) k) ?_
          show WP p e below _ (T50.setTop (mkF m 72 #[.val (.long q1), .second, .val (.long q2), .second, .val (.long q3), .second, .val (.int p4), .val (.int z2_S0), .val (.ref b4), .val (.int vi47), .val (.int z49_S0), .unset, .unset, .unset, .unset, .unset, .unset, .unset, .unset, .unset, .unset] []))
          refine own_go (fun t_ k => XS.lloadN X50.here hx rfl (hb hby at_72) rfl k) ?_
          show WP p e below _ (T50.setTop (mkF m 73 #[.val (.long q1), .second, .val (.long q2), .second, .val (.long q3), .second, .val (.int p4), .val (.int z2_S0), .val (.ref b4), .val (.int vi47), .val (.int z49_S0), .unset, .unset, .unset, .unset, .unset, .unset, .unset, .unset, .unset, .unset] [(.long q1)]))
          exact J53 T50 _ X50 N50 e50 _ (by rw [if_pos hc65_51])
        · refine own_go (fun t_ k => XS.ifNo X50.here hx rfl (hb hby at_65) rfl ((if0 _ _).trans (feq hc65_51).1) k) ?_
          show WP p e below _ (T50.setTop (mkF m 68 #[.val (.long q1), .second, .val (.long q2), .second, .val (.long q3), .second, .val (.int p4), .val (.int z2_S0), .val (.ref b4), .val (.int vi47), .val (.int z49_S0), .unset, .unset, .unset, .unset, .unset, .unset, .unset, .unset, .unset, .unset] []))
          refine own_go (fun t_ k => XS.lloadN X50.here hx rfl (hb hby at_68) rfl k) ?_
          show WP p e below _ (T50.setTop (mkF m 69 #[.val (.long q1), .second, .val (.long q2), .second, .val (.long q3), .second, .val (.int p4), .val (.int z2_S0), .val (.ref b4), .val (.int vi47), .val (.int z49_S0), .unset, .unset, .unset, .unset, .unset, .unset, .unset, .unset, .unset, .unset] [(.long q2)]))
          refine own_go (fun t_ k => XS.goto X50.here hx rfl (pc0 := 69) (pc' := 73) rfl (hb hby at_69) (by decide) (by decide) k) ?_
          show WP p e below _ (T50.setTop (mkF m 73 #[.val (.long q1), .second, .val (.long q2), .second, .val (.long q3), .second, .val (.int p4), .val (.int z2_S0), .val (.ref b4), .val (.int vi47), .val (.int z49_S0), .unset, .unset, .unset, .unset, .unset, .unset, .unset, .unset, .unset, .unset] [(.long q2)]))
          exact J53 T50 _ X50 N50 e50 _ (by rw [if_neg hc65_51])
      by_cases hc47_48 : z2_S0 = (0 : Int32)
      · refine own_go (fun t_ k => XS.ifYes X44.here hx rfl (pc0 := 47) (pc' := 56) rfl (hb hby at_47) rfl ((if0 _ _).trans (teq hc47_48).1) (by decide) (by decide) k) ?_
        show WP p e below _ (T44.setTop (mkF m 56 #[.val (.long q1), .second, .val (.long q2), .second, .val (.long q3), .second, .val (.int p4), .val (.int z2_S0), .val (.ref b4), .val (.int vi47), .unset, .unset, .unset, .unset, .unset, .unset, .unset, .unset, .unset, .unset, .unset] []))
        refine own_go (fun t_ k => XS.iconst X44.here hx rfl (hb hby at_56) k) ?_
        show WP p e below _ (T44.setTop (mkF m 57 #[.val (.long q1), .second, .val (.long q2), .second, .val (.long q3), .second, .val (.int p4), .val (.int z2_S0), .val (.ref b4), .val (.int vi47), .unset, .unset, .unset, .unset, .unset, .unset, .unset, .unset, .unset, .unset, .unset] [(.int (1 : Int32))]))
        refine own_go (fun t_ k => XS.goto X44.here hx rfl (pc0 := 57) (pc' := 61) rfl (hb hby at_57) (by decide) (by decide) k) ?_
        show WP p e below _ (T44.setTop (mkF m 61 #[.val (.long q1), .second, .val (.long q2), .second, .val (.long q3), .second, .val (.int p4), .val (.int z2_S0), .val (.ref b4), .val (.int vi47), .unset, .unset, .unset, .unset, .unset, .unset, .unset, .unset, .unset, .unset, .unset] [(.int (1 : Int32))]))
        exact J50 T44 _ X44 N44 rfl _ (by rw [if_pos hc47_48])
      · refine own_go (fun t_ k => XS.ifNo X44.here hx rfl (hb hby at_47) rfl ((if0 _ _).trans (feq hc47_48).1) k) ?_
        show WP p e below _ (T44.setTop (mkF m 50 #[.val (.long q1), .second, .val (.long q2), .second, .val (.long q3), .second, .val (.int p4), .val (.int z2_S0), .val (.ref b4), .val (.int vi47), .unset, .unset, .unset, .unset, .unset, .unset, .unset, .unset, .unset, .unset, .unset] []))
        refine own_go (fun t_ k => XS.lloadN X44.here hx rfl (hb hby at_50) rfl k) ?_
        show WP p e below _ (T44.setTop (mkF m 51 #[.val (.long q1), .second, .val (.long q2), .second, .val (.long q3), .second, .val (.int p4), .val (.int z2_S0), .val (.ref b4), .val (.int vi47), .unset, .unset, .unset, .unset, .unset, .unset, .unset, .unset, .unset, .unset, .unset] [(.long q2)]))
        refine own_go (fun t_ k => XS.lloadN X44.here hx rfl (hb hby at_51) rfl k) ?_
        show WP p e below _ (T44.setTop (mkF m 52 #[.val (.long q1), .second, .val (.long q2), .second, .val (.long q3), .second, .val (.int p4), .val (.int z2_S0), .val (.ref b4), .val (.int vi47), .unset, .unset, .unset, .unset, .unset, .unset, .unset, .unset, .unset, .unset, .unset] [(.long q1), (.long q2)]))
        refine own_go (fun t_ k => XS.lcmp X44.here hx rfl (hb hby at_52) rfl k) ?_
        show WP p e below _ (T44.setTop (mkF m 53 #[.val (.long q1), .second, .val (.long q2), .second, .val (.long q3), .second, .val (.int p4), .val (.int z2_S0), .val (.ref b4), .val (.int vi47), .unset, .unset, .unset, .unset, .unset, .unset, .unset, .unset, .unset, .unset, .unset] [(.int (lcmpW q2 q1))]))
        by_cases hc53_82 : q1 < q2
        · refine own_go (fun t_ k => XS.ifNo X44.here hx rfl (hb hby at_53) rfl ((if0 _ _).trans (tlt ((lw_gt _ _).mpr hc53_82)).2.2.2) k) ?_
          show WP p e below _ (T44.setTop (mkF m 56 #[.val (.long q1), .second, .val (.long q2), .second, .val (.long q3), .second, .val (.int p4), .val (.int z2_S0), .val (.ref b4), .val (.int vi47), .unset, .unset, .unset, .unset, .unset, .unset, .unset, .unset, .unset, .unset, .unset] []))
          refine own_go (fun t_ k => XS.iconst X44.here hx rfl (hb hby at_56) k) ?_
          show WP p e below _ (T44.setTop (mkF m 57 #[.val (.long q1), .second, .val (.long q2), .second, .val (.long q3), .second, .val (.int p4), .val (.int z2_S0), .val (.ref b4), .val (.int vi47), .unset, .unset, .unset, .unset, .unset, .unset, .unset, .unset, .unset, .unset, .unset] [(.int (1 : Int32))]))
          refine own_go (fun t_ k => XS.goto X44.here hx rfl (pc0 := 57) (pc' := 61) rfl (hb hby at_57) (by decide) (by decide) k) ?_
          show WP p e below _ (T44.setTop (mkF m 61 #[.val (.long q1), .second, .val (.long q2), .second, .val (.long q3), .second, .val (.int p4), .val (.int z2_S0), .val (.ref b4), .val (.int vi47), .unset, .unset, .unset, .unset, .unset, .unset, .unset, .unset, .unset, .unset, .unset] [(.int (1 : Int32))]))
          exact J50 T44 _ X44 N44 rfl _ (by rw [if_neg hc47_48, if_pos hc53_82])
        · refine own_go (fun t_ k => XS.ifYes X44.here hx rfl (pc0 := 53) (pc' := 60) rfl (hb hby at_53) rfl ((if0 _ _).trans (flt (mt (lw_gt _ _).mp hc53_82)).2.2.2) (by decide) (by decide) k) ?_
          show WP p e below _ (T44.setTop (mkF m 60 #[.val (.long q1), .second, .val (.long q2), .second, .val (.long q3), .second, .val (.int p4), .val (.int z2_S0), .val (.ref b4), .val (.int vi47), .unset, .unset, .unset, .unset, .unset, .unset, .unset, .unset, .unset, .unset, .unset] []))
          refine own_go (fun t_ k => XS.iconst X44.here hx rfl (hb hby at_60) k) ?_
          show WP p e below _ (T44.setTop (mkF m 61 #[.val (.long q1), .second, .val (.long q2), .second, .val (.long q3), .second, .val (.int p4), .val (.int z2_S0), .val (.ref b4), .val (.int vi47), .unset, .unset, .unset, .unset, .unset, .unset, .unset, .unset, .unset, .unset, .unset] [(.int (0 : Int32))]))
          exact J50 T44 _ X44 N44 rfl _ (by rw [if_neg hc47_48, if_neg hc53_82])
  by_cases hc4_1 : (p4 &&& (1 : Int32)) = (0 : Int32)
  · refine own_go (fun t_ k => XS.ifYes X0.here hx rfl (pc0 := 4) (pc' := 11) rfl (hb hby at_4) rfl ((if0 _ _).trans (teq hc4_1).1) (by decide) (by decide) k) ?_
    show WP p e below _ (s₁.setTop (mkF m 11 #[.val (.long q1), .second, .val (.long q2), .second, .val (.long q3), .second, .val (.int p4), .unset, .unset, .unset, .unset, .unset, .unset, .unset, .unset, .unset, .unset, .unset, .unset, .unset, .unset] []))
    refine own_go (fun t_ k => XS.iconst X0.here hx rfl (hb hby at_11) k) ?_
    show WP p e below _ (s₁.setTop (mkF m 12 #[.val (.long q1), .second, .val (.long q2), .second, .val (.long q3), .second, .val (.int p4), .unset, .unset, .unset, .unset, .unset, .unset, .unset, .unset, .unset, .unset, .unset, .unset, .unset, .unset] [(.int (0 : Int32))]))
    exact J3 s₁ _ X0 N0 e0 _ (by rw [if_pos hc4_1])
  · refine own_go (fun t_ k => XS.ifNo X0.here hx rfl (hb hby at_4) rfl ((if0 _ _).trans (feq hc4_1).1) k) ?_
    show WP p e below _ (s₁.setTop (mkF m 7 #[.val (.long q1), .second, .val (.long q2), .second, .val (.long q3), .second, .val (.int p4), .unset, .unset, .unset, .unset, .unset, .unset, .unset, .unset, .unset, .unset, .unset, .unset, .unset, .unset] []))
    refine own_go (fun t_ k => XS.iconst X0.here hx rfl (hb hby at_7) k) ?_
    show WP p e below _ (s₁.setTop (mkF m 8 #[.val (.long q1), .second, .val (.long q2), .second, .val (.long q3), .second, .val (.int p4), .unset, .unset, .unset, .unset, .unset, .unset, .unset, .unset, .unset, .unset, .unset, .unset, .unset, .unset] [(.int (1 : Int32))]))
    refine own_go (fun t_ k => XS.goto X0.here hx rfl (pc0 := 8) (pc' := 12) rfl (hb hby at_8) (by decide) (by decide) k) ?_
    show WP p e below _ (s₁.setTop (mkF m 12 #[.val (.long q1), .second, .val (.long q2), .second, .val (.long q3), .second, .val (.int p4), .unset, .unset, .unset, .unset, .unset, .unset, .unset, .unset, .unset, .unset, .unset, .unset, .unset, .unset] [(.int (1 : Int32))]))
    exact J3 s₁ _ X0 N0 e0 _ (by rw [if_neg hc4_1])
set_option maxRecDepth 65536 in
set_option maxHeartbeats 40000000 in
theorem comes_1 {Post : Tables → Env → Array Value → State → Outcome → State → Prop} (hpost : ∀ tb e args s v u, (limb_1_1.after args s (.returned v) u = true ∧ limb_1_2.after args s (.returned v) u = true ∧ True) → FrameEnd s (.returned v) u (Jvm.fieldLocs frame_1_writes args s ++ Jvm.arrayLocs frame_1_arrays args s ++ Jvm.staticLocs frame_1_statics s) 16 128 → Post tb e args s (.returned v) u) :
    ArmFor flags0 classFile x code maxLocals ret World_1 tables_1 room_1 Calls_1 rest_1 Pre_1 Post := by
  intro l hfl _ _ p e ha hc hk s m args below hf hA hF happ hP
  obtain ⟨hcalls, hrest, hpre⟩ := hP
  obtain ⟨-, -, -, hnamed, -, -, -, hat⟩ := (Spec.applies_iff hf).mp happ
  obtain ⟨hg, hn⟩ := and_e (Cond.before_iff.mp (show (Jvm.Cond.and given_1 narrow_1).before args s = true from hpre))
  obtain ⟨g1, g2⟩ := and_e hg
  obtain ⟨g3, g4⟩ := and_e g2
  obtain ⟨g5, g6⟩ := and_e g4
  obtain ⟨g7, g8⟩ := and_e g6
  obtain ⟨w0, w1, w2, w3, rfl⟩ : ∃ w0 w1 w2 w3 : Value, args = #[w0, w1, w2, w3] := by
    have hs : args.size = 4 := by simpa [Cond.value, given_1] using g1
    obtain ⟨L⟩ := args
    match L, hs with
    | [w0, w1, w2, w3], _ => exact ⟨w0, w1, w2, w3, rfl⟩
  have hw := fun d (hd : d ∈ tables_1) => atoms_spec (ws := Jvm.Cond.code x code maxLocals ret :: tables_1) hat d (List.mem_cons_of_mem _ hd)
  have hfit : Fit s := fun {y c} hc i hi => by
    obtain ⟨ha, rfl⟩ := Array.getElem?_eq_some_iff.mp hc
    have q := List.all_eq_true.mp ((Array.all_eq_true_iff_forall_mem.mp hF) _ (Array.getElem_mem ha)) i (List.mem_range.mpr hi)
    simpa [Array.getElem?_eq_getElem hi] using q
  obtain ⟨i0, ei0⟩ := isL_v g3
  obtain rfl : w0 = (.long i0) := Option.some.inj ei0
  obtain ⟨i1, ei1⟩ := isL_v g5
  obtain rfl : w1 = (.long i1) := Option.some.inj ei1
  obtain ⟨i2, ei2⟩ := isL_v g7
  obtain rfl : w2 = (.long i2) := Option.some.inj ei2
  obtain ⟨i3, ei3⟩ := is_v g8
  obtain rfl : w3 = (.int i3) := Option.some.inj ei3
  obtain ⟨n, o, h1, h2, h3, _, L, rfl, ⟨rfl, N⟩, hq⟩ := rm0 l s _ hw tables_1 i0 i1 i2 i3 s.heap s.heap.size (Nat.le_refl _) p e ha hc hk s m _ below hf ((Spec.applies_iff_loose hf).mp happ).1 ⟨rfl, State.Warmed39.refl s, rfl⟩ trivial
  refine ⟨n, _, h1, h2, h3, hpost _ _ _ _ _ _ ⟨Cond.after_iff.mpr rfl, Cond.after_iff.mpr (eq_i res_at (Term.int_eval (1)) rfl), trivial⟩ ⟨hq.1, hq.2.1, (hq.2.2.sift fun y hy => Or.inr (N y hy)).mono (by decide) (by decide)⟩⟩
theorem main_1_1 : Claimed_1_1 := comes_1 fun _ _ _ _ _ _ h hF => ⟨h.1, hF⟩
theorem main_1_2 : Claimed_1_2 := comes_1 fun _ _ _ _ _ _ h hF => ⟨h.2.1, hF⟩
end Jvm.Pilot.@@N@@
namespace Jvm.Pilot.@@N@@
open Jvm Jvm.ClassFile Sem Op Lib Jvm.Free Jvm.Stand Jvm.Pilot.@@N@@.Jvm.D
/-! MADE BY PROGRAM (witnessworld.py) out of the Statement's table words and the real class files: 9 classes; the members and pool entries that the words name. The judged class is class 1, her method 1. -/
namespace start1
open Jvm.ClassFile
def u (s : String) : CpInfo := .utf8 (stringToUtf16 s)
/-- a pool by its gaps: so many unusable entries, then the entry; so many at the end -/
def gap : Nat → List CpInfo → List CpInfo
  | 0, r => r
  | n + 1, r => .unusable :: gap n r
def poolList (es : List (Nat × CpInfo)) (last : Nat) : List CpInfo := es.foldr (fun e r => gap e.1 (e.2 :: r)) (gap last [])
def pool (es : List (Nat × CpInfo)) (last : Nat) : Array CpInfo := ⟨poolList es last⟩
def fileOf (pool : Array CpInfo) (this : Nat) (attrs : Array Attribute := #[]) (ms : Array MethodInfo := #[]) (fl : Nat := 33) (sup : Nat := 0) (ifs : Array Nat := #[]) (fds : Array FieldInfo := #[]) : ClassFile where
  minorVersion := 0
  majorVersion := 65
  constantPool := pool
  accessFlags := fl
  thisClass := this
  superClass := sup
  interfaces := ifs
  fields := fds
  methods := ms
  attributes := attrs
def plain (name : String) (sup : Option ClassId) : Class where
  name := name
  kind := .ordinary
  loader := none
  accessFlags := 33
  super := sup
  interfaces := #[]
  cf := none
  fields := #[]
  methods := #[]
  instanceTypes := #[]
  staticTypes := #[]
  resolved := #[]
  callSites := []
  init := .initialized
  statics := none
  mirror := none

def pool0 : Array CpInfo := pool [(5, u "<init>"), (0, u "()V"), (1, .class_ 10), (1, u "java/lang/Object")] 113

def k0c0 : Code := { maxStack := 0, maxLocals := 1, code := object_method_1_code, exceptionTable := #[], attributes := #[] }
def k0m0 : Method := { name := "<init>", desc := "()V", sig := { parameters := [], returnType := none }, accessFlags := 1, code := some k0c0 }
/-- java/lang/Object -/
def k0 : Class := { plain "java/lang/Object" none with
  accessFlags := 33
  interfaces := #[]
  cf := some (fileOf pool0 8 #[] #[{ accessFlags := 1, nameIndex := 5, descriptorIndex := 6, attributes := #[] }] 33 0 #[] #[])
  fields := #[]
  methods := #[k0m0]
  instanceTypes := #[]
  staticTypes := #[]
  resolved := Array.replicate 124 none
  statics := none }

def pool1 : Array CpInfo := pool [(2, .class_ 4), (1, u "java/lang/Object"), (0, u "<init>"), (0, u "()V"), (0, .class_ 8), (0, u "com/example/holdfast/holdfast/PastDamage"), (0, .methodref 7 10), (0, .nameAndType 5 11), (0, u "(J)V"), (0, .long 2), (1, .methodref 7 15), (0, .nameAndType 16 17), (0, u "picksUpAt"), (0, u "(JI)Z"), (0, .methodref 7 19), (0, .nameAndType 20 21), (0, u "takes"), (0, u "(J)Z"), (0, .class_ 23), (0, u "com/example/holdfast/holdfast/PastDamageTakesPinLaw"), (2, u "law"), (0, u "(JJJI)Z")] 3

def k1m0 : Method := { name := "<init>", desc := "()V", sig := { parameters := [], returnType := none }, accessFlags := 1, code := none }
def k1c1 : Code := { maxStack := 5, maxLocals := 21, code := code, exceptionTable := #[], attributes := #[] }
def k1m1 : Method := { name := "law", desc := "(JJJI)Z", sig := { parameters := [.long, .long, .long, .int], returnType := some .boolean }, accessFlags := 9, code := some k1c1 }
/-- com/example/holdfast/holdfast/PastDamageTakesPinLaw -/
def k1 : Class := { plain "com/example/holdfast/holdfast/PastDamageTakesPinLaw" (some 0) with
  accessFlags := 49
  interfaces := #[]
  cf := some (fileOf pool1 22 #[] #[{ accessFlags := 1, nameIndex := 5, descriptorIndex := 6, attributes := #[] }, { accessFlags := 9, nameIndex := 26, descriptorIndex := 27, attributes := #[] }] 49 2 #[] #[])
  fields := #[]
  methods := #[k1m0, k1m1]
  instanceTypes := #[]
  staticTypes := #[]
  resolved := Array.replicate 31 none
  statics := none }

def pool2 : Array CpInfo := pool [(1, .methodref 2 3), (0, .class_ 4), (0, .nameAndType 5 6), (0, u "java/lang/Object"), (0, u "<init>"), (0, u "()V"), (0, .fieldref 8 9), (0, .class_ 10), (0, .nameAndType 11 12), (0, u "com/example/holdfast/holdfast/PastDamage"), (0, u "doubtFrom"), (0, u "I"), (0, .fieldref 8 14), (0, .nameAndType 15 16), (0, u "last"), (0, u "J"), (0, .long 2), (14, u "(J)V"), (2, u "takes"), (0, u "(J)Z"), (2, u "picksUpAt"), (0, u "(JI)Z")] 6

def k2c0 : Code := { maxStack := 3, maxLocals := 3, code := prog_35_method_1_code, exceptionTable := #[], attributes := #[] }
def k2m0 : Method := { name := "<init>", desc := "(J)V", sig := { parameters := [.long], returnType := none }, accessFlags := 0, code := some k2c0 }
def k2c1 : Code := { maxStack := 4, maxLocals := 3, code := prog_35_method_2_code, exceptionTable := #[], attributes := #[] }
def k2m1 : Method := { name := "takes", desc := "(J)Z", sig := { parameters := [.long], returnType := some .boolean }, accessFlags := 0, code := some k2c1 }
def k2c2 : Code := { maxStack := 6, maxLocals := 4, code := prog_35_method_4_code, exceptionTable := #[], attributes := #[] }
def k2m2 : Method := { name := "picksUpAt", desc := "(JI)Z", sig := { parameters := [.long, .int], returnType := some .boolean }, accessFlags := 0, code := some k2c2 }
/-- com/example/holdfast/holdfast/PastDamage -/
def k2 : Class := { plain "com/example/holdfast/holdfast/PastDamage" (some 0) with
  accessFlags := 48
  interfaces := #[]
  cf := some (fileOf pool2 8 #[] #[{ accessFlags := 0, nameIndex := 5, descriptorIndex := 32, attributes := #[] }, { accessFlags := 0, nameIndex := 35, descriptorIndex := 36, attributes := #[] }, { accessFlags := 0, nameIndex := 39, descriptorIndex := 40, attributes := #[] }] 48 2 #[] #[{ accessFlags := 2, nameIndex := 15, descriptorIndex := 16, attributes := #[] }, { accessFlags := 2, nameIndex := 11, descriptorIndex := 12, attributes := #[] }])
  fields := #[{ name := "last", type := .long, accessFlags := 2, slot := 0, constantValue := 0 }, { name := "doubtFrom", type := .int, accessFlags := 2, slot := 1, constantValue := 0 }]
  methods := #[k2m0, k2m1, k2m2]
  instanceTypes := #[.long, .int]
  staticTypes := #[]
  resolved := Array.replicate 47 none
  statics := none }

def pool3 : Array CpInfo := pool [(1, u "java/lang/Cloneable"), (0, .class_ 1), (0, u "java/lang/Object"), (0, .class_ 3)] 3

/-- java/lang/Cloneable -/
def k3 : Class := { plain "java/lang/Cloneable" (some 0) with
  accessFlags := 1537
  interfaces := #[]
  cf := some (fileOf pool3 2 #[] #[] 1537 4 #[] #[])
  fields := #[]
  methods := #[]
  instanceTypes := #[]
  staticTypes := #[]
  resolved := Array.replicate 8 none
  statics := none }

def pool4 : Array CpInfo := pool [(1, u "java/io/Serializable"), (0, .class_ 1), (0, u "java/lang/Object"), (0, .class_ 3)] 3

/-- java/io/Serializable -/
def k4 : Class := { plain "java/io/Serializable" (some 0) with
  accessFlags := 1537
  interfaces := #[]
  cf := some (fileOf pool4 2 #[] #[] 1537 4 #[] #[])
  fields := #[]
  methods := #[]
  instanceTypes := #[]
  staticTypes := #[]
  resolved := Array.replicate 8 none
  statics := none }

/-- the primitive byte -/
def k5 : Class := { plain "byte" none with kind := .primitive 'B', accessFlags := 0x411 }
/-- [B -/
def k6 : Class := { plain "[B" (some 0) with kind := .array 5 .byte, interfaces := #[3, 4], accessFlags := 1041 }

/-- the primitive int -/
def k7 : Class := { plain "int" none with kind := .primitive 'I', accessFlags := 0x411 }
/-- [I -/
def k8 : Class := { plain "[I" (some 0) with kind := .array 7 .int, interfaces := #[3, 4], accessFlags := 1041 }

def heap : Heap := #[]
def classes : Array Class := #[k0, k1, k2, k3, k4, k5, k6, k7, k8]
def interned : List (Array UInt16 × Addr) := []
def slotsUsed : Nat := 0
def theMethod : MethodId := ⟨1, 1⟩
def args0 : Array Value := #[.long 5, .long 6, .long 7, .int 1]
def aboutOver (below : List Frame) : State where
  vm := { classes := classes, interned := interned.toArray }
  heap := heap
  slotsUsed := slotsUsed
  threads := #[{ frames := .invoking theMethod args0 :: below }]
def below0 : List Frame := [.native { method := ⟨0, 0⟩, args := #[] }]
def about1 : State := aboutOver below0
def p0 : Program := .bare "" "" ""
def e0 : Env := launch0.env 0 0 0
theorem w_frames : about1.frames = Frame.invoking theMethod args0 :: below0 := rfl
set_option maxRecDepth 65536 in
theorem w_args : argsFit about1.vm theMethod args0 = true := by decide +kernel
set_option maxRecDepth 65536 in
theorem w_heap : heapFits about1 = true := by decide +kernel
set_option maxRecDepth 65536 in
theorem w_runnable : about1.curStatus? = some .runnable := by decide +kernel
set_option maxRecDepth 65536 in
theorem w_alone : about1.alone = true := by decide +kernel
set_option maxRecDepth 65536 in
theorem w_named : about1.methodNamed? x = some theMethod := by decide +kernel
set_option maxRecDepth 65536 in
theorem w_hears : about1.hears theMethod below0 = true := by decide +kernel
set_option maxRecDepth 65536 in
theorem w_ripe : about1.ripe theMethod args0 below0 = true := by decide +kernel
theorem w_running : about1.status = .running := rfl
set_option maxRecDepth 65536 in
theorem w_room : about1.hasRoom e0.platform room_1 = true :=
  launch0.hasRoom_least _ room_1 (by decide +kernel) (by decide +kernel) (by decide +kernel) (by decide +kernel) (by decide +kernel) (by decide +kernel)
theorem allAtoms_all (ts : List Jvm.Cond) (a : Array Jvm.Value) (st : Jvm.State) : (allAtoms ts).before a st = ts.all (fun c => c.before a st) := by
  induction ts with
  | nil => rfl
  | cons c t ih =>
    show (Jvm.Cond.and c (allAtoms t)).before a st = _
    rw [Jvm.Cond.before_and, ih, List.all_cons]
def words1 : List Jvm.Cond := Jvm.Cond.code x code maxLocals ret :: tables_1
/-- a 'code' word, met by the world's own term for the bytes: nothing is compared byte by byte -/
theorem code_word {y : MethodName} {bytes : ByteArray} {mx : Nat} {rt : Option FieldType} {a : Array Value} {s : State} {m : MethodId} {meth : Method} {c : Code} (h1 : s.methodNamed? y = some m) (h2 : s.vm.method? m = some meth) (h3 : meth.code = some c) (h4 : c.code = bytes)
    (h5 : (c.maxLocals == mx && c.exceptionTable.isEmpty && decide (c.maxStack ≤ mostOperands) && decide (meth.sig.returnType = rt) && !meth.locks && decide (parseMethodDescriptor y.desc = some meth.sig)) = true) : (Jvm.Cond.code y bytes mx rt).before a s = true := by
  simp only [Bool.and_eq_true, beq_iff_eq, Bool.not_eq_true', decide_eq_true_eq] at h5
  obtain ⟨⟨⟨⟨⟨g1, g2⟩, g3⟩, g4⟩, g5⟩, g6⟩ := h5
  simp [Cond.before, Cond.holds, Cond.value, h1, h2, h3, h4, g1, g2, g3, g4, g5, g6]
def isCode : Jvm.Cond → Bool
  | .code _ _ _ _ => true
  | _ => false
theorem all_split {L : List Jvm.Cond} {P : Jvm.Cond → Bool} (h1 : L.all (fun c => isCode c || P c) = true) (h2 : ∀ c ∈ L.filter isCode, P c = true) : L.all P = true := by
  refine List.all_eq_true.mpr fun c hc => ?_
  have h := List.all_eq_true.mp h1 c hc
  rcases Bool.eq_false_or_eq_true (isCode c) with hi | hi
  · exact h2 c (List.mem_filter.mpr ⟨hc, hi⟩)
  · simpa [hi] using h
set_option maxRecDepth 65536 in
theorem w_c0 : (Jvm.Cond.code x code maxLocals ret).before args0 about1 = true := code_word (m := ⟨1, 1⟩) (meth := k1m1) (c := k1c1) (by decide +kernel) rfl rfl rfl (by decide +kernel)
set_option maxRecDepth 65536 in
theorem w_c1 : (Jvm.Cond.code ({ cls := "com/example/holdfast/holdfast/PastDamage", name := "<init>", desc := "(J)V" } : Jvm.MethodName) prog_35_method_1_code (3 : Nat) (Option.none : Option Jvm.ClassFile.FieldType)).before args0 about1 = true := code_word (m := ⟨2, 0⟩) (meth := k2m0) (c := k2c0) (by decide +kernel) rfl rfl rfl (by decide +kernel)
set_option maxRecDepth 65536 in
theorem w_c2 : (Jvm.Cond.code ({ cls := "java/lang/Object", name := "<init>", desc := "()V" } : Jvm.MethodName) object_method_1_code (1 : Nat) (Option.none : Option Jvm.ClassFile.FieldType)).before args0 about1 = true := code_word (m := ⟨0, 0⟩) (meth := k0m0) (c := k0c0) (by decide +kernel) rfl rfl rfl (by decide +kernel)
set_option maxRecDepth 65536 in
theorem w_c3 : (Jvm.Cond.code ({ cls := "com/example/holdfast/holdfast/PastDamage", name := "takes", desc := "(J)Z" } : Jvm.MethodName) prog_35_method_2_code (3 : Nat) (Option.some Jvm.ClassFile.FieldType.boolean)).before args0 about1 = true := code_word (m := ⟨2, 1⟩) (meth := k2m1) (c := k2c1) (by decide +kernel) rfl rfl rfl (by decide +kernel)
set_option maxRecDepth 65536 in
theorem w_c4 : (Jvm.Cond.code ({ cls := "com/example/holdfast/holdfast/PastDamage", name := "picksUpAt", desc := "(JI)Z" } : Jvm.MethodName) prog_35_method_4_code (4 : Nat) (Option.some Jvm.ClassFile.FieldType.boolean)).before args0 about1 = true := code_word (m := ⟨2, 2⟩) (meth := k2m2) (c := k2c2) (by decide +kernel) rfl rfl rfl (by decide +kernel)
def codes1 : List Jvm.Cond := [Jvm.Cond.code x code maxLocals ret, Jvm.Cond.code ({ cls := "com/example/holdfast/holdfast/PastDamage", name := "<init>", desc := "(J)V" } : Jvm.MethodName) prog_35_method_1_code (3 : Nat) (Option.none : Option Jvm.ClassFile.FieldType), Jvm.Cond.code ({ cls := "java/lang/Object", name := "<init>", desc := "()V" } : Jvm.MethodName) object_method_1_code (1 : Nat) (Option.none : Option Jvm.ClassFile.FieldType), Jvm.Cond.code ({ cls := "com/example/holdfast/holdfast/PastDamage", name := "takes", desc := "(J)Z" } : Jvm.MethodName) prog_35_method_2_code (3 : Nat) (Option.some Jvm.ClassFile.FieldType.boolean), Jvm.Cond.code ({ cls := "com/example/holdfast/holdfast/PastDamage", name := "picksUpAt", desc := "(JI)Z" } : Jvm.MethodName) prog_35_method_4_code (4 : Nat) (Option.some Jvm.ClassFile.FieldType.boolean)]
set_option maxRecDepth 65536 in
theorem codes_eq : words1.filter isCode = codes1 := rfl
theorem w_codes : ∀ c ∈ words1.filter isCode, c.before args0 about1 = true := by
  rw [codes_eq]
  intro c hc
  simp only [codes1, List.mem_cons, List.not_mem_nil, or_false] at hc
  rcases hc with rfl | rfl | rfl | rfl | rfl
  · exact w_c0
  · exact w_c1
  · exact w_c2
  · exact w_c3
  · exact w_c4
set_option maxRecDepth 65536 in
theorem w_t1 : (words1.take 24).all (fun c => isCode c || c.before args0 about1) = true := by decide +kernel
set_option maxRecDepth 65536 in
theorem w_t2 : (words1.drop 24).all (fun c => isCode c || c.before args0 about1) = true := by decide +kernel
theorem w_tables : (allAtoms (Jvm.Cond.code x code maxLocals ret :: tables_1)).before args0 about1 = true := by
  rw [allAtoms_all]
  show words1.all (fun c => c.before args0 about1) = true
  refine all_split ?_ w_codes
  rw [← List.take_append_drop 24 words1, List.all_append, w_t1, w_t2]
  rfl
set_option maxRecDepth 65536 in
theorem w_case : (Jvm.Cond.and given_1 narrow_1).before args0 about1 = true := by decide +kernel
theorem w_applies : (headSpec (Jvm.Cond.code x code maxLocals ret :: tables_1) room_1).applies x e0.platform about1 = true :=
  (Spec.applies_iff w_frames).mpr ⟨w_running, w_runnable, w_alone, w_named, w_hears, w_ripe, w_room, w_tables⟩
theorem atStart : AtStart classFile x code maxLocals ret World_1 tables_1 room_1 Calls_1 rest_1 Pre_1 launch0 p0 e0 about1 theMethod args0 below0 :=
  ⟨lists_1, trivial, launch0.admits_env _ _ _, launch0.least_env, fairChoices_fair.cas, fairChoices_fair.clock, w_frames, w_args, w_heap, w_applies, trivial, trivial, w_case⟩
end start1
theorem witness_1 : WitnessClaimed_1 := ⟨start1.p0, start1.e0, start1.about1, start1.theMethod, start1.args0, start1.below0, start1.atStart⟩
end Jvm.Pilot.@@N@@
