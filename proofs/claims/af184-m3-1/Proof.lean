import JvmDerived
import JvmDerived.Pilot.@@N@@Statement
import JvmDerived.Pilot.@@N@@Code
set_option linter.unusedVariables false
set_option linter.unusedSimpArgs false
namespace Jvm.Pilot.@@N@@
open Jvm Jvm.ClassFile Sem Op Lib Jvm.Free Jvm.Stand Jvm.LawKit Jvm.RoadKit Bundle Jvm.Pilot.@@N@@.Jvm.D
/-! The end of a walk, as a goal: from U the run ends, and G holds of the end. -/
def WP (p : Program) (e : Env) (below : List Frame) (G : State → Outcome → Prop) (U : State) : Prop :=
  ∃ s₂ o, Steps p.tables e below U s₂ ∧ s₂.status = .running ∧ Ended s₂ below o ∧ G s₂ o
def GG (Q : Option Value → Heap → List Loc → Prop) (s : State) (k n : Nat) : State → Outcome → Prop :=
  fun t o => ∃ v L, o = .returned v ∧ Q v t.heap L ∧ FrameEnd s o t L k n
theorem own_go {p : Program} {e : Env} {below : List Frame} {G : State → Outcome → Prop} {U V : State} (h : ∀ t, Steps p.tables e below V t → Steps p.tables e below U t) (w : WP p e below G V) : WP p e below G U := by
  obtain ⟨t, o, h1, h2⟩ := w
  exact ⟨t, o, h _ h1, h2⟩
/-- what a body that writes nothing leaves -/
def PQ (h0 : Heap) (n0 : Nat) (w : Value) (v : Option Value) (h : Heap) (L : List Loc) : Prop := v = some w ∧ Fr n0 L ∧ h = h0
/-- what the law leaves -/
def Q0 (n0 : Nat) (v : Option Value) (h : Heap) (L : List Loc) : Prop := v = some (.int 1) ∧ Fr n0 L
section Own
variable {p : Program} {l : Launch} {e : Env} {R : Room} {s : State} {m : MethodId} {args : Array Value} {below : List Frame} {meth : Method} {c : Code} {T : State} {locs : List Loc} {cells slots : Nat}
theorem own_mono (X : Stand p l e R s m args below meth c T locs cells slots) {k n : Nat} (h1 : cells ≤ k) (h2 : slots ≤ n) : Stand p l e R s m args below meth c T locs k n :=
  ⟨X.admits, X.cas, X.clock, X.frames, X.room, X.hears, X.method, X.code, X.here, X.tail, X.warmed, X.limits, X.bytes, X.same.mono h1 h2⟩
theorem own_retI (X : Stand p l e R s m args below meth c T locs cells slots) (hx : p.tables.exec = Jvm.exec) (hnl : meth.locks = false) (hret : meth.sig.returnType = some .int) {pc : Nat} {Ls : Array Slot} {z : Int32} {rest : List Value} (hd : decode c.code pc = .ok (.ireturn, 1)) {Q : Option Value → Heap → List Loc → Prop} {k n : Nat}
    (hq : Q (some (.int z)) T.heap locs) (hc : cells ≤ k) (hs : slots ≤ n) : WP p e below (GG Q s k n) (T.setTop (mkF m pc Ls (.int z :: rest))) := by
  obtain ⟨fs, hr, hrun, hended, hW, hsame⟩ := X.leave (v := some (.int z)) (fun h => by rw [hret] at h; cases h) hnl
  exact ⟨_, _, retOut X hx hret rfl (Or.inl ⟨rfl, Or.inl rfl, z, rfl⟩) hd hr, hrun, hended, _, _, rfl, hq, ⟨_, rfl⟩, hW, hsame.mono hc hs⟩
theorem own_retN (X : Stand p l e R s m args below meth c T locs cells slots) (hx : p.tables.exec = Jvm.exec) (hnl : meth.locks = false) {t : FieldType} (hret : meth.sig.returnType = some t) (ht : t = .boolean ∨ t = .byte ∨ t = .char ∨ t = .short) {pc : Nat} {Ls : Array Slot} {z : Int32} {rest : List Value} (hd : decode c.code pc = .ok (.ireturn, 1)) {Q : Option Value → Heap → List Loc → Prop} {k n : Nat}
    (hq : Q (some (.int (nar t z))) T.heap locs) (hc : cells ≤ k) (hs : slots ≤ n) : WP p e below (GG Q s k n) (T.setTop (mkF m pc Ls (.int z :: rest))) := by
  obtain ⟨fs, hr, hrun, hended, hW, hsame⟩ := X.leave (v := some (.int (nar t z))) (fun h => by rw [hret] at h; cases h) hnl
  exact ⟨_, _, retN X hx hret ht hd hr, hrun, hended, _, _, rfl, hq, ⟨_, rfl⟩, hW, hsame.mono hc hs⟩
theorem own_retZ (X : Stand p l e R s m args below meth c T locs cells slots) (hx : p.tables.exec = Jvm.exec) (hnl : meth.locks = false) (hret : meth.sig.returnType = some .boolean) {pc : Nat} {Ls : Array Slot} {z : Int32} {rest : List Value} (hd : decode c.code pc = .ok (.ireturn, 1)) (hz : z = 0 ∨ z = 1) {Q : Option Value → Heap → List Loc → Prop} {k n : Nat}
    (hq : Q (some (.int z)) T.heap locs) (hc : cells ≤ k) (hs : slots ≤ n) : WP p e below (GG Q s k n) (T.setTop (mkF m pc Ls (.int z :: rest))) := by
  have hb : nar .boolean z = z := by rcases hz with rfl | rfl <;> rfl
  exact own_retN X hx hnl hret (Or.inl rfl) hd (by rw [hb]; exact hq) hc hs
theorem own_retC (X : Stand p l e R s m args below meth c T locs cells slots) (hx : p.tables.exec = Jvm.exec) (hnl : meth.locks = false) (hret : meth.sig.returnType = some .char) {pc : Nat} {Ls : Array Slot} {z : Int32} {rest : List Value} (hd : decode c.code pc = .ok (.ireturn, 1)) {Q : Option Value → Heap → List Loc → Prop} {k n : Nat}
    (hq : Q (some (.int z.toUInt32.toUInt16.toUInt32.toInt32)) T.heap locs) (hc : cells ≤ k) (hs : slots ≤ n) : WP p e below (GG Q s k n) (T.setTop (mkF m pc Ls (.int z :: rest))) :=
  own_retN X hx hnl hret (Or.inr (Or.inr (Or.inl rfl))) hd hq hc hs
theorem own_retB (X : Stand p l e R s m args below meth c T locs cells slots) (hx : p.tables.exec = Jvm.exec) (hnl : meth.locks = false) (hret : meth.sig.returnType = some .byte) {pc : Nat} {Ls : Array Slot} {z : Int32} {rest : List Value} (hd : decode c.code pc = .ok (.ireturn, 1)) {Q : Option Value → Heap → List Loc → Prop} {k n : Nat}
    (hq : Q (some (.int z.toInt8.toInt32)) T.heap locs) (hc : cells ≤ k) (hs : slots ≤ n) : WP p e below (GG Q s k n) (T.setTop (mkF m pc Ls (.int z :: rest))) :=
  own_retN X hx hnl hret (Or.inr (Or.inl rfl)) hd hq hc hs
theorem own_retJ (X : Stand p l e R s m args below meth c T locs cells slots) (hx : p.tables.exec = Jvm.exec) (hnl : meth.locks = false) (hret : meth.sig.returnType = some .long) {pc : Nat} {Ls : Array Slot} {z : Int64} {rest : List Value} (hd : decode c.code pc = .ok (.lreturn, 1)) {Q : Option Value → Heap → List Loc → Prop} {k n : Nat}
    (hq : Q (some (.long z)) T.heap locs) (hc : cells ≤ k) (hs : slots ≤ n) : WP p e below (GG Q s k n) (T.setTop (mkF m pc Ls (.long z :: rest))) := by
  obtain ⟨fs, hr, hrun, hended, hW, hsame⟩ := X.leave (v := some (.long z)) (fun h => by rw [hret] at h; cases h) hnl
  exact ⟨_, _, retOut X hx hret rfl (Or.inr (Or.inl ⟨rfl, rfl, z, rfl⟩)) hd hr, hrun, hended, _, _, rfl, hq, ⟨_, rfl⟩, hW, hsame.mono hc hs⟩
theorem own_retA (X : Stand p l e R s m args below meth c T locs cells slots) (hx : p.tables.exec = Jvm.exec) (hnl : meth.locks = false) {t : FieldType} (hret : meth.sig.returnType = some t) (ht : t.isReference = true) {pc : Nat} {Ls : Array Slot} {w : Value} (hw : w.isRef = true) {rest : List Value} (hd : decode c.code pc = .ok (.areturn, 1)) {Q : Option Value → Heap → List Loc → Prop} {k n : Nat}
    (hq : Q (some w) T.heap locs) (hc : cells ≤ k) (hs : slots ≤ n) : WP p e below (GG Q s k n) (T.setTop (mkF m pc Ls (w :: rest))) := by
  obtain ⟨fs, hr, hrun, hended, hW, hsame⟩ := X.leave (v := some w) (fun h => by rw [hret] at h; cases h) hnl
  have hn : narrow t w = w := by cases t <;> first | rfl | (simp [FieldType.isReference] at ht)
  exact ⟨_, _, retOut X hx hret hn (Or.inr (Or.inr (Or.inr (Or.inr ⟨rfl, ht, hw⟩)))) hd hr, hrun, hended, _, _, rfl, hq, ⟨_, rfl⟩, hW, hsame.mono hc hs⟩
theorem own_ret0 (X : Stand p l e R s m args below meth c T locs cells slots) (hx : p.tables.exec = Jvm.exec) (hnl : meth.locks = false) (hret : meth.sig.returnType = none) {pc : Nat} {Ls : Array Slot} (hd : decode c.code pc = .ok (.return_, 1)) {Q : Option Value → Heap → List Loc → Prop} {k n : Nat}
    (hq : Q none T.heap locs) (hc : cells ≤ k) (hs : slots ≤ n) : WP p e below (GG Q s k n) (T.setTop (mkF m pc Ls [])) := by
  obtain ⟨fs, hr, hrun, hended, hW, hsame⟩ := X.leave (v := none) (fun _ => rfl) hnl
  exact ⟨_, _, X.returnOut hx hret hd hr, hrun, hended, _, _, rfl, hq, ⟨_, rfl⟩, hW, hsame.mono hc hs⟩
end Own

def f1 (q1 : Int64) : Int32 := ((((512 : Int64) - (q1 % (512 : Int64))) % (512 : Int64)).toInt32)
theorem d1_0 : decode prog_46_method_5_code 0 = .ok (.ldc2_w 152, 3) := by decide +kernel
theorem d1_3 : decode prog_46_method_5_code 3 = .ok (.lload_n 0, 1) := by decide +kernel
theorem d1_4 : decode prog_46_method_5_code 4 = .ok (.ldc2_w 152, 3) := by decide +kernel
theorem d1_7 : decode prog_46_method_5_code 7 = .ok (.lrem, 1) := by decide +kernel
theorem d1_8 : decode prog_46_method_5_code 8 = .ok (.lsub, 1) := by decide +kernel
theorem d1_9 : decode prog_46_method_5_code 9 = .ok (.ldc2_w 152, 3) := by decide +kernel
theorem d1_12 : decode prog_46_method_5_code 12 = .ok (.lrem, 1) := by decide +kernel
theorem d1_13 : decode prog_46_method_5_code 13 = .ok (.l2i, 1) := by decide +kernel
theorem d1_14 : decode prog_46_method_5_code 14 = .ok (.ireturn, 1) := by decide +kernel
theorem pn_0 : plainName "com/example/holdfast/holdfast/Tar" = true := by first | (simp [plainName, overriddenIn]; done) | decide +kernel
theorem ef_rm1 (m : MethodId) (x0 : Int64) : entryFrame m #[(.long x0)] 2 = mkF m 0 #[.val (.long x0), .second] [] := by first | (simp [entryFrame, mkF, argsToLocals, Value.category]; done) | rfl
set_option maxRecDepth 65536 in
set_option maxHeartbeats 40000000 in
theorem rm1 (l : Launch) (Z : State) (a0 : Array Value) (hw : ∀ d ∈ tables_1, d.before a0 Z = true) (ws : List Jvm.Cond) (q1 : Int64) (h0 : Heap) (n0 : Nat) :
    MetFree l (⟨"com/example/holdfast/holdfast/Tar", "padding", "(J)I"⟩ : MethodName) (head1 (Jvm.Cond.code (⟨"com/example/holdfast/holdfast/Tar", "padding", "(J)I"⟩ : MethodName) prog_46_method_5_code 2 (some .int) :: ws) ({ frames := 0, cells := 0, slots := 0, locals := 0 } : Room)) (fun a U => a = #[(.long q1)] ∧ Z.Warmed39 U.vm ∧ U.heap = h0) (fun _ _ _ _ _ => True) (fun _ U o U' => ∃ v L, o = .returned v ∧ (PQ h0 n0 (.int (f1 q1))) v U'.heap L ∧ FrameEnd U o U' L ({ frames := 0, cells := 0, slots := 0, locals := 0 } : Room).cells ({ frames := 0, cells := 0, slots := 0, locals := 0 } : Room).slots) := by
  refine MetFree.of_bodySF (plainFor_of_name pn_0) hisR ?_
  intro p e s m args below meth c s₁ Bd hml0 hP hK
  obtain ⟨rfl, hZ, hh⟩ := hP
  have hx := Bd.exec
  have hby := Bd.bytes
  have hml : c.maxLocals = 2 := hml0
  have hown : s.vm.findClass "com/example/holdfast/holdfast/Tar" = some m.cls := findClass_of_methodNamed Bd.named
  have hnm := (name_of_methodNamed Bd.named Bd.method).1
  have X0 : Stand p l e ({ frames := 0, cells := 0, slots := 0, locals := 0 } : Room) s m #[(.long q1)] below meth c s₁ [] 0 0 := Stand.of_body Bd
  have e0 : s₁.heap = h0 := by rw [← hh, Bd.state]; rfl
  have N0 := Fr.nil n0
  show WP p e below (GG (PQ h0 n0 (.int (f1 q1))) s ({ frames := 0, cells := 0, slots := 0, locals := 0 } : Room).cells ({ frames := 0, cells := 0, slots := 0, locals := 0 } : Room).slots) (s₁.setTop (entryFrame m #[(.long q1)] 2))
  rw [ef_rm1 m q1]
  show WP p e below _ (s₁.setTop (mkF m 0 #[.val (.long q1), .second] []))
  refine own_go (fun t_ k => X0.ldc2Long hx hown (mvT hZ (hw _ (List.mem_of_getElem? (i := 5) rfl))) (g := (mkF m 0 #[.val (.long q1), .second] [])) rfl (hb hby d1_0) _ k) ?_
  show WP p e below _ (s₁.setTop (mkF m 3 #[.val (.long q1), .second] [(.long (512 : Int64))]))
  refine own_go (fun t_ k => XS.lloadN X0.here hx rfl (hb hby d1_3) rfl k) ?_
  show WP p e below _ (s₁.setTop (mkF m 4 #[.val (.long q1), .second] [(.long q1), (.long (512 : Int64))]))
  refine own_go (fun t_ k => X0.ldc2Long hx hown (mvT hZ (hw _ (List.mem_of_getElem? (i := 5) rfl))) (g := (mkF m 4 #[.val (.long q1), .second] [(.long q1), (.long (512 : Int64))])) rfl (hb hby d1_4) _ k) ?_
  show WP p e below _ (s₁.setTop (mkF m 7 #[.val (.long q1), .second] [(.long (512 : Int64)), (.long q1), (.long (512 : Int64))]))
  refine own_go (fun t_ k => XS.lrem X0.here hx rfl (hb hby d1_7) rfl (by decide) ((congrArg (fun z => Steps p.tables e below (s₁.setTop (mkF m 8 #[.val (.long q1), .second] [(.long z), (.long (512 : Int64))])) t_) (lrem_mod q1 (512 : Int64))).mpr k)) ?_
  show WP p e below _ (s₁.setTop (mkF m 8 #[.val (.long q1), .second] [(.long (q1 % (512 : Int64))), (.long (512 : Int64))]))
  refine own_go (fun t_ k => XS.lsub X0.here hx rfl (hb hby d1_8) rfl k) ?_
  show WP p e below _ (s₁.setTop (mkF m 9 #[.val (.long q1), .second] [(.long ((512 : Int64) - (q1 % (512 : Int64))))]))
  refine own_go (fun t_ k => X0.ldc2Long hx hown (mvT hZ (hw _ (List.mem_of_getElem? (i := 5) rfl))) (g := (mkF m 9 #[.val (.long q1), .second] [(.long ((512 : Int64) - (q1 % (512 : Int64))))])) rfl (hb hby d1_9) _ k) ?_
  show WP p e below _ (s₁.setTop (mkF m 12 #[.val (.long q1), .second] [(.long (512 : Int64)), (.long ((512 : Int64) - (q1 % (512 : Int64))))]))
  refine own_go (fun t_ k => XS.lrem X0.here hx rfl (hb hby d1_12) rfl (by decide) ((congrArg (fun z => Steps p.tables e below (s₁.setTop (mkF m 13 #[.val (.long q1), .second] [(.long z)])) t_) (lrem_mod ((512 : Int64) - (q1 % (512 : Int64))) (512 : Int64))).mpr k)) ?_
  show WP p e below _ (s₁.setTop (mkF m 13 #[.val (.long q1), .second] [(.long (((512 : Int64) - (q1 % (512 : Int64))) % (512 : Int64)))]))
  refine own_go (fun t_ k => XS.l2i X0.here hx rfl (hb hby d1_13) rfl k) ?_
  show WP p e below _ (s₁.setTop (mkF m 14 #[.val (.long q1), .second] [(.int ((((512 : Int64) - (q1 % (512 : Int64))) % (512 : Int64)).toInt32))]))
  exact own_retI X0 hx Bd.notSynchronized Bd.returns (hb hby d1_14) (show PQ h0 n0 (.int (f1 q1)) _ _ _ from ⟨by rw [f1], N0, e0⟩) (by decide) (by decide)
theorem pd_0 : parseMethodDescriptor "(J)I" = some ⟨[.long], some .int⟩ := by decide +kernel
theorem own_law_1 {q1 : Int64} {vj1 : Int64} {vi3 : Int32} {vj4 : Int64} {z6_S0 : Int32} {z9_S0 : Int32} {z12_S0 : Int32}
    (he1 : (q1 &&& (9223372036854775807 : Int64)) = vj1)
    (he3 : (f1 vj1) = vi3)
    (he4 : (vj1 &&& (511 : Int64)) = vj4)
    (hz6_S0 : z6_S0 = (if vi3 < (0 : Int32) then (0 : Int32) else (if vi3 < (512 : Int32) then (1 : Int32) else (0 : Int32))))
    (hz9_S0 : z9_S0 = (if ((vj4 + (vi3.toInt64)) &&& (511 : Int64)) = (0 : Int64) then (1 : Int32) else (0 : Int32)))
    (hz12_S0 : z12_S0 = (if z6_S0 = (0 : Int32) then (0 : Int32) else (if z9_S0 = (0 : Int32) then (0 : Int32) else (1 : Int32))))  : z12_S0 = 1 := by
  have a1 := c_maskL q1 9223372036854775807 63 (by decide) (by decide)
  rw [he1] at a1
  have a2 := c_maskL vj1 511 9 (by decide) (by decide)
  rw [he4] at a2
  rw [f1] at he3
  have z1 : (512 : Int64).toInt = 512 := rfl
  have b1 := (c_lrem vj1 512 512 rfl).1
  have b2 := c_lsub 512 (vj1 % 512)
  have b3 := (c_lrem (512 - vj1 % 512) 512 512 rfl).1
  have b4 := c_l2i ((512 - vj1 % 512) % 512)
  rw [lrem_mod] at b1 b3
  rw [he3] at b4
  have r1 := Int64.le_toInt (512 - vj1 % 512)
  have r2 := Int64.toInt_lt (512 - vj1 % 512)
  have r3 := Int32.le_toInt vi3
  have r4 := Int32.toInt_lt vi3
  have e1 : (512 - vj1 % 512).toInt = 512 - vj1.toInt % 512 := by omega
  have e2 : vi3.toInt = (512 - vj1.toInt % 512) % 512 := by omega
  have y0 : (0 : Int32).toInt = 0 := rfl
  have y1 : (512 : Int32).toInt = 512 := rfl
  have c1 : ¬ vi3 < 0 := by rw [Int32.lt_iff_toInt_lt]; omega
  have c2 : vi3 < 512 := by rw [Int32.lt_iff_toInt_lt]; omega
  have d1 := c_ladd vj4 vi3.toInt64
  have d2 := c_i2l vi3
  have d3 := c_maskL (vj4 + vi3.toInt64) 511 9 (by decide) (by decide)
  have c3 : ((vj4 + vi3.toInt64) &&& 511) = 0 := Int64.toInt_inj.mp (by rw [d3]; show _ = (0 : Int); omega)
  rw [if_neg c1, if_pos c2] at hz6_S0
  rw [if_pos c3] at hz9_S0
  subst hz6_S0 hz9_S0
  exact hz12_S0
theorem pn_1 : plainName "com/example/holdfast/holdfast/TarPaddingPinLaw" = true := by first | (simp [plainName, overriddenIn]; done) | decide +kernel
theorem ef_rm0 (m : MethodId) (x0 : Int64) : entryFrame m #[(.long x0)] maxLocals = mkF m 0 #[.val (.long x0), .second, .unset, .unset, .unset, .unset, .unset, .unset, .unset] [] := by first | (simp [entryFrame, mkF, argsToLocals, Value.category, maxLocals]; done) | rfl
set_option maxRecDepth 65536 in
set_option maxHeartbeats 40000000 in
theorem rm0 (l : Launch) (Z : State) (a0 : Array Value) (hw : ∀ d ∈ tables_1, d.before a0 Z = true) (ws : List Jvm.Cond) (q1 : Int64) (h0 : Heap) (n0 : Nat) (Z0 : n0 ≤ h0.size) :
    MetFree l x (head1 (Jvm.Cond.code x code maxLocals ret :: ws) room_1) (fun a U => a = #[(.long q1)] ∧ Z.Warmed39 U.vm ∧ U.heap = h0) (fun _ _ _ _ _ => True) (fun _ U o U' => ∃ v L, o = .returned v ∧ (Q0 n0) v U'.heap L ∧ FrameEnd U o U' L room_1.cells room_1.slots) := by
  refine MetFree.of_bodySF (plainFor_of_name pn_1) hisR ?_
  intro p e s m args below meth c s₁ Bd hml0 hP hK
  obtain ⟨rfl, hZ, hh⟩ := hP
  have hx := Bd.exec
  have hby := Bd.bytes
  have hml : c.maxLocals = 9 := hml0
  have hown : s.vm.findClass "com/example/holdfast/holdfast/TarPaddingPinLaw" = some m.cls := findClass_of_methodNamed Bd.named
  have hnm := (name_of_methodNamed Bd.named Bd.method).1
  have X0 : Stand p l e room_1 s m #[(.long q1)] below meth c s₁ [] 0 0 := Stand.of_body Bd
  have e0 : s₁.heap = h0 := by rw [← hh, Bd.state]; rfl
  have N0 := Fr.nil n0
  show WP p e below (GG (Q0 n0) s room_1.cells room_1.slots) (s₁.setTop (entryFrame m #[(.long q1)] maxLocals))
  rw [ef_rm0 m q1]
  show WP p e below _ (s₁.setTop (mkF m 0 #[.val (.long q1), .second, .unset, .unset, .unset, .unset, .unset, .unset, .unset] []))
  refine own_go (fun t_ k => XS.lloadN X0.here hx rfl (hb hby at_0) rfl k) ?_
  show WP p e below _ (s₁.setTop (mkF m 1 #[.val (.long q1), .second, .unset, .unset, .unset, .unset, .unset, .unset, .unset] [(.long q1)]))
  refine own_go (fun t_ k => X0.ldc2Long hx hown (mvT hZ (hw _ (List.mem_of_getElem? (i := 0) rfl))) (g := (mkF m 1 #[.val (.long q1), .second, .unset, .unset, .unset, .unset, .unset, .unset, .unset] [(.long q1)])) rfl (hb hby at_1) _ k) ?_
  show WP p e below _ (s₁.setTop (mkF m 4 #[.val (.long q1), .second, .unset, .unset, .unset, .unset, .unset, .unset, .unset] [(.long (9223372036854775807 : Int64)), (.long q1)]))
  refine own_go (fun t_ k => XS.land X0.here hx rfl (hb hby at_4) rfl k) ?_
  show WP p e below _ (s₁.setTop (mkF m 5 #[.val (.long q1), .second, .unset, .unset, .unset, .unset, .unset, .unset, .unset] [(.long (q1 &&& (9223372036854775807 : Int64)))]))
  refine own_go (fun t_ k => XS.lstoreN X0.here hx rfl (hb hby at_5) rfl (l' := #[.val (.long q1), .second, .val (.long (q1 &&& (9223372036854775807 : Int64))), .second, .unset, .unset, .unset, .unset, .unset]) rfl k) ?_
  show WP p e below _ (s₁.setTop (mkF m 6 #[.val (.long q1), .second, .val (.long (q1 &&& (9223372036854775807 : Int64))), .second, .unset, .unset, .unset, .unset, .unset] []))
  generalize he1 : (q1 &&& (9223372036854775807 : Int64)) = vj1
  show WP p e below _ (s₁.setTop (mkF m 6 #[.val (.long q1), .second, .val (.long vj1), .second, .unset, .unset, .unset, .unset, .unset] []))
  refine own_go (fun t_ k => XS.lloadN X0.here hx rfl (hb hby at_6) rfl k) ?_
  show WP p e below _ (s₁.setTop (mkF m 7 #[.val (.long q1), .second, .val (.long vj1), .second, .unset, .unset, .unset, .unset, .unset] [(.long vj1)]))
  obtain ⟨_, _, ⟨T2, L2, k2, n2⟩, -, X2, ⟨Lc2, hQ2, l2, y2, z2⟩, st2⟩ := Jvm.LawKit.callS X0 hx (y := (⟨"com/example/holdfast/holdfast/Tar", "padding", "(J)I"⟩ : MethodName)) hown (mvT hZ (hw _ (List.mem_of_getElem? (i := 1) rfl))) (mvT hZ (hw _ (List.mem_of_getElem? (i := 2) rfl))) (mvT hZ (hw _ (List.mem_of_getElem? (i := 3) rfl))) (mvT hZ (hw _ (List.mem_of_getElem? (i := 4) rfl))) (by decide) (backOf (W := 0) (rm1 l Z a0 hw [] vj1 h0 n0) hZ (hw _ (List.mem_of_getElem? (i := 4) rfl)) (hw _ (List.mem_of_getElem? (i := 3) rfl)) (by decide) (by decide)) (g := (mkF m 7 #[.val (.long q1), .second, .val (.long vj1), .second, .unset, .unset, .unset, .unset, .unset] [(.long vj1)])) rfl (by rw [hml]; rfl) (argsL := [(.long vj1)]) (rest := []) (lenOf pd_0 rfl) rfl (by show 2 * 0 + _ ≤ _; exact Nat.le_of_eq rfl) (hb hby at_7) (fun _ _ => ⟨rfl, e0, (by decide : 0 + 0 ≤ _), (by decide : 0 + 0 ≤ _)⟩)
  dsimp only [Pt.U, Pt.locs, Pt.cells, Pt.slots] at X2 l2 y2 z2 st2 hQ2
  subst l2 y2 z2
  obtain ⟨rfl, N2q, e2⟩ := hQ2
  have N2 := Fr.app N0 N2q
  replace X2 : Stand p l e room_1 s m _ below meth c T2 _ 0 0 := X2
  refine own_go st2 ?_
  show WP p e below _ (T2.setTop (mkF m 10 #[.val (.long q1), .second, .val (.long vj1), .second, .unset, .unset, .unset, .unset, .unset] [(.int (f1 vj1))]))
  generalize he3 : (f1 vj1) = vi3
  show WP p e below _ (T2.setTop (mkF m 10 #[.val (.long q1), .second, .val (.long vj1), .second, .unset, .unset, .unset, .unset, .unset] [(.int vi3)]))
  refine own_go (fun t_ k => XS.istore X2.here hx rfl (hb hby at_10) rfl (l' := #[.val (.long q1), .second, .val (.long vj1), .second, .val (.int vi3), .unset, .unset, .unset, .unset]) rfl k) ?_
  show WP p e below _ (T2.setTop (mkF m 12 #[.val (.long q1), .second, .val (.long vj1), .second, .val (.int vi3), .unset, .unset, .unset, .unset] []))
  refine own_go (fun t_ k => XS.lloadN X2.here hx rfl (hb hby at_12) rfl k) ?_
  show WP p e below _ (T2.setTop (mkF m 13 #[.val (.long q1), .second, .val (.long vj1), .second, .val (.int vi3), .unset, .unset, .unset, .unset] [(.long vj1)]))
  refine own_go (fun t_ k => X2.ldc2Long hx hown (mvT hZ (hw _ (List.mem_of_getElem? (i := 6) rfl))) (g := (mkF m 13 #[.val (.long q1), .second, .val (.long vj1), .second, .val (.int vi3), .unset, .unset, .unset, .unset] [(.long vj1)])) rfl (hb hby at_13) _ k) ?_
  show WP p e below _ (T2.setTop (mkF m 16 #[.val (.long q1), .second, .val (.long vj1), .second, .val (.int vi3), .unset, .unset, .unset, .unset] [(.long (511 : Int64)), (.long vj1)]))
  refine own_go (fun t_ k => XS.land X2.here hx rfl (hb hby at_16) rfl k) ?_
  show WP p e below _ (T2.setTop (mkF m 17 #[.val (.long q1), .second, .val (.long vj1), .second, .val (.int vi3), .unset, .unset, .unset, .unset] [(.long (vj1 &&& (511 : Int64)))]))
  refine own_go (fun t_ k => XS.lstore X2.here hx rfl (hb hby at_17) rfl (l' := #[.val (.long q1), .second, .val (.long vj1), .second, .val (.int vi3), .val (.long (vj1 &&& (511 : Int64))), .second, .unset, .unset]) rfl k) ?_
  show WP p e below _ (T2.setTop (mkF m 19 #[.val (.long q1), .second, .val (.long vj1), .second, .val (.int vi3), .val (.long (vj1 &&& (511 : Int64))), .second, .unset, .unset] []))
  generalize he4 : (vj1 &&& (511 : Int64)) = vj4
  show WP p e below _ (T2.setTop (mkF m 19 #[.val (.long q1), .second, .val (.long vj1), .second, .val (.int vi3), .val (.long vj4), .second, .unset, .unset] []))
  refine own_go (fun t_ k => XS.iload X2.here hx rfl (hb hby at_19) rfl k) ?_
  show WP p e below _ (T2.setTop (mkF m 21 #[.val (.long q1), .second, .val (.long vj1), .second, .val (.int vi3), .val (.long vj4), .second, .unset, .unset] [(.int vi3)]))
  have J7 : ∀ (T7 : State) (ls7 : List Loc) (X7 : Stand p l e room_1 s m #[(.long q1)] below meth c T7 ls7 0 0) (N7 : Fr n0 ls7) (e7 : T7.heap = h0) (z6_S0 : Int32) (hz6_S0 : z6_S0 = (if vi3 < (0 : Int32) then (0 : Int32) else (if vi3 < (512 : Int32) then (1 : Int32) else (0 : Int32)))), WP p e below (GG (Q0 n0) s room_1.cells room_1.slots) (T7.setTop (mkF m 37 #[.val (.long q1), .second, .val (.long vj1), .second, .val (.int vi3), .val (.long vj4), .second, .unset, .unset] [(.int z6_S0)])) := by
    intro T7 ls7 X7 N7 e7 z6_S0 hz6_S0
    show WP p e below _ (T7.setTop (mkF m 37 #[.val (.long q1), .second, .val (.long vj1), .second, .val (.int vi3), .val (.long vj4), .second, .unset, .unset] [(.int z6_S0)]))
    refine own_go (fun t_ k => XS.istore X7.here hx rfl (hb hby at_37) rfl (l' := #[.val (.long q1), .second, .val (.long vj1), .second, .val (.int vi3), .val (.long vj4), .second, .val (.int z6_S0), .unset]) rfl k) ?_
    show WP p e below _ (T7.setTop (mkF m 39 #[.val (.long q1), .second, .val (.long vj1), .second, .val (.int vi3), .val (.long vj4), .second, .val (.int z6_S0), .unset] []))
    refine own_go (fun t_ k => XS.lload X7.here hx rfl (hb hby at_39) rfl k) ?_
    show WP p e below _ (T7.setTop (mkF m 41 #[.val (.long q1), .second, .val (.long vj1), .second, .val (.int vi3), .val (.long vj4), .second, .val (.int z6_S0), .unset] [(.long vj4)]))
    refine own_go (fun t_ k => XS.iload X7.here hx rfl (hb hby at_41) rfl k) ?_
    show WP p e below _ (T7.setTop (mkF m 43 #[.val (.long q1), .second, .val (.long vj1), .second, .val (.int vi3), .val (.long vj4), .second, .val (.int z6_S0), .unset] [(.int vi3), (.long vj4)]))
    refine own_go (fun t_ k => XS.i2l X7.here hx rfl (hb hby at_43) rfl k) ?_
    show WP p e below _ (T7.setTop (mkF m 44 #[.val (.long q1), .second, .val (.long vj1), .second, .val (.int vi3), .val (.long vj4), .second, .val (.int z6_S0), .unset] [(.long (vi3.toInt64)), (.long vj4)]))
    refine own_go (fun t_ k => XS.ladd X7.here hx rfl (hb hby at_44) rfl k) ?_
    show WP p e below _ (T7.setTop (mkF m 45 #[.val (.long q1), .second, .val (.long vj1), .second, .val (.int vi3), .val (.long vj4), .second, .val (.int z6_S0), .unset] [(.long (vj4 + (vi3.toInt64)))]))
    refine own_go (fun t_ k => X7.ldc2Long hx hown (mvT hZ (hw _ (List.mem_of_getElem? (i := 6) rfl))) (g := (mkF m 45 #[.val (.long q1), .second, .val (.long vj1), .second, .val (.int vi3), .val (.long vj4), .second, .val (.int z6_S0), .unset] [(.long (vj4 + (vi3.toInt64)))])) rfl (hb hby at_45) _ k) ?_
    show WP p e below _ (T7.setTop (mkF m 48 #[.val (.long q1), .second, .val (.long vj1), .second, .val (.int vi3), .val (.long vj4), .second, .val (.int z6_S0), .unset] [(.long (511 : Int64)), (.long (vj4 + (vi3.toInt64)))]))
    refine own_go (fun t_ k => XS.land X7.here hx rfl (hb hby at_48) rfl k) ?_
    show WP p e below _ (T7.setTop (mkF m 49 #[.val (.long q1), .second, .val (.long vj1), .second, .val (.int vi3), .val (.long vj4), .second, .val (.int z6_S0), .unset] [(.long ((vj4 + (vi3.toInt64)) &&& (511 : Int64)))]))
    refine own_go (fun t_ k => XS.lconst X7.here hx rfl (hb hby at_49) k) ?_
    show WP p e below _ (T7.setTop (mkF m 50 #[.val (.long q1), .second, .val (.long vj1), .second, .val (.int vi3), .val (.long vj4), .second, .val (.int z6_S0), .unset] [(.long (0 : Int64)), (.long ((vj4 + (vi3.toInt64)) &&& (511 : Int64)))]))
    refine own_go (fun t_ k => XS.lcmp X7.here hx rfl (hb hby at_50) rfl k) ?_
    show WP p e below _ (T7.setTop (mkF m 51 #[.val (.long q1), .second, .val (.long vj1), .second, .val (.int vi3), .val (.long vj4), .second, .val (.int z6_S0), .unset] [(.int (lcmpW ((vj4 + (vi3.toInt64)) &&& (511 : Int64)) (0 : Int64)))]))
    have J10 : ∀ (T10 : State) (ls10 : List Loc) (X10 : Stand p l e room_1 s m #[(.long q1)] below meth c T10 ls10 0 0) (N10 : Fr n0 ls10) (e10 : T10.heap = h0) (z9_S0 : Int32) (hz9_S0 : z9_S0 = (if ((vj4 + (vi3.toInt64)) &&& (511 : Int64)) = (0 : Int64) then (1 : Int32) else (0 : Int32))), WP p e below (GG (Q0 n0) s room_1.cells room_1.slots) (T10.setTop (mkF m 59 #[.val (.long q1), .second, .val (.long vj1), .second, .val (.int vi3), .val (.long vj4), .second, .val (.int z6_S0), .unset] [(.int z9_S0)])) := by
      intro T10 ls10 X10 N10 e10 z9_S0 hz9_S0
      show WP p e below _ (T10.setTop (mkF m 59 #[.val (.long q1), .second, .val (.long vj1), .second, .val (.int vi3), .val (.long vj4), .second, .val (.int z6_S0), .unset] [(.int z9_S0)]))
      refine own_go (fun t_ k => XS.istore X10.here hx rfl (hb hby at_59) rfl (l' := #[.val (.long q1), .second, .val (.long vj1), .second, .val (.int vi3), .val (.long vj4), .second, .val (.int z6_S0), .val (.int z9_S0)]) rfl k) ?_
      show WP p e below _ (T10.setTop (mkF m 61 #[.val (.long q1), .second, .val (.long vj1), .second, .val (.int vi3), .val (.long vj4), .second, .val (.int z6_S0), .val (.int z9_S0)] []))
      refine own_go (fun t_ k => XS.iload X10.here hx rfl (hb hby at_61) rfl k) ?_
      show WP p e below _ (T10.setTop (mkF m 63 #[.val (.long q1), .second, .val (.long vj1), .second, .val (.int vi3), .val (.long vj4), .second, .val (.int z6_S0), .val (.int z9_S0)] [(.int z6_S0)]))
      have J13 : ∀ (T13 : State) (ls13 : List Loc) (X13 : Stand p l e room_1 s m #[(.long q1)] below meth c T13 ls13 0 0) (N13 : Fr n0 ls13) (e13 : T13.heap = h0) (z12_S0 : Int32) (hz12_S0 : z12_S0 = (if z6_S0 = (0 : Int32) then (0 : Int32) else (if z9_S0 = (0 : Int32) then (0 : Int32) else (1 : Int32)))), WP p e below (GG (Q0 n0) s room_1.cells room_1.slots) (T13.setTop (mkF m 76 #[.val (.long q1), .second, .val (.long vj1), .second, .val (.int vi3), .val (.long vj4), .second, .val (.int z6_S0), .val (.int z9_S0)] [(.int z12_S0)])) := by
        intro T13 ls13 X13 N13 e13 z12_S0 hz12_S0
        show WP p e below _ (T13.setTop (mkF m 76 #[.val (.long q1), .second, .val (.long vj1), .second, .val (.int vi3), .val (.long vj4), .second, .val (.int z6_S0), .val (.int z9_S0)] [(.int z12_S0)]))
        exact own_retZ X13 hx Bd.notSynchronized Bd.returns (hb hby at_76) (by rw [hz12_S0]; (repeat' split); all_goals first | exact Or.inl rfl | exact Or.inr rfl) (show Q0 n0 _ _ _ from ⟨by rw [own_law_1 he1 he3 he4 hz6_S0 hz9_S0 hz12_S0], N13⟩) (by decide) (by decide)
      by_cases hc63_11 : z6_S0 = (0 : Int32)
      · refine own_go (fun t_ k => XS.ifYes X10.here hx rfl (pc0 := 63) (pc' := 75) rfl (hb hby at_63) rfl ((if0 _ _).trans (teq hc63_11).1) (by decide) (by decide) k) ?_
        show WP p e below _ (T10.setTop (mkF m 75 #[.val (.long q1), .second, .val (.long vj1), .second, .val (.int vi3), .val (.long vj4), .second, .val (.int z6_S0), .val (.int z9_S0)] []))
        refine own_go (fun t_ k => XS.iconst X10.here hx rfl (hb hby at_75) k) ?_
        show WP p e below _ (T10.setTop (mkF m 76 #[.val (.long q1), .second, .val (.long vj1), .second, .val (.int vi3), .val (.long vj4), .second, .val (.int z6_S0), .val (.int z9_S0)] [(.int (0 : Int32))]))
        exact J13 T10 _ X10 N10 e10 _ (by rw [if_pos hc63_11])
      · refine own_go (fun t_ k => XS.ifNo X10.here hx rfl (hb hby at_63) rfl ((if0 _ _).trans (feq hc63_11).1) k) ?_
        show WP p e below _ (T10.setTop (mkF m 66 #[.val (.long q1), .second, .val (.long vj1), .second, .val (.int vi3), .val (.long vj4), .second, .val (.int z6_S0), .val (.int z9_S0)] []))
        refine own_go (fun t_ k => XS.iload X10.here hx rfl (hb hby at_66) rfl k) ?_
        show WP p e below _ (T10.setTop (mkF m 68 #[.val (.long q1), .second, .val (.long vj1), .second, .val (.int vi3), .val (.long vj4), .second, .val (.int z6_S0), .val (.int z9_S0)] [(.int z9_S0)]))
        by_cases hc68_14 : z9_S0 = (0 : Int32)
        · refine own_go (fun t_ k => XS.ifYes X10.here hx rfl (pc0 := 68) (pc' := 75) rfl (hb hby at_68) rfl ((if0 _ _).trans (teq hc68_14).1) (by decide) (by decide) k) ?_
          show WP p e below _ (T10.setTop (mkF m 75 #[.val (.long q1), .second, .val (.long vj1), .second, .val (.int vi3), .val (.long vj4), .second, .val (.int z6_S0), .val (.int z9_S0)] []))
          refine own_go (fun t_ k => XS.iconst X10.here hx rfl (hb hby at_75) k) ?_
          show WP p e below _ (T10.setTop (mkF m 76 #[.val (.long q1), .second, .val (.long vj1), .second, .val (.int vi3), .val (.long vj4), .second, .val (.int z6_S0), .val (.int z9_S0)] [(.int (0 : Int32))]))
          exact J13 T10 _ X10 N10 e10 _ (by rw [if_neg hc63_11, if_pos hc68_14])
        · refine own_go (fun t_ k => XS.ifNo X10.here hx rfl (hb hby at_68) rfl ((if0 _ _).trans (feq hc68_14).1) k) ?_
          show WP p e below _ (T10.setTop (mkF m 71 #[.val (.long q1), .second, .val (.long vj1), .second, .val (.int vi3), .val (.long vj4), .second, .val (.int z6_S0), .val (.int z9_S0)] []))
          refine own_go (fun t_ k => XS.iconst X10.here hx rfl (hb hby at_71) k) ?_
          show WP p e below _ (T10.setTop (mkF m 72 #[.val (.long q1), .second, .val (.long vj1), .second, .val (.int vi3), .val (.long vj4), .second, .val (.int z6_S0), .val (.int z9_S0)] [(.int (1 : Int32))]))
          refine own_go (fun t_ k => XS.goto X10.here hx rfl (pc0 := 72) (pc' := 76) rfl (hb hby at_72) (by decide) (by decide) k) ?_
          show WP p e below _ (T10.setTop (mkF m 76 #[.val (.long q1), .second, .val (.long vj1), .second, .val (.int vi3), .val (.long vj4), .second, .val (.int z6_S0), .val (.int z9_S0)] [(.int (1 : Int32))]))
          exact J13 T10 _ X10 N10 e10 _ (by rw [if_neg hc63_11, if_neg hc68_14])
    by_cases hc51_8 : ((vj4 + (vi3.toInt64)) &&& (511 : Int64)) = (0 : Int64)
    · refine own_go (fun t_ k => XS.ifNo X7.here hx rfl (hb hby at_51) rfl ((if0 _ _).trans (teq ((lw_eq _ _).mpr hc51_8)).2) k) ?_
      show WP p e below _ (T7.setTop (mkF m 54 #[.val (.long q1), .second, .val (.long vj1), .second, .val (.int vi3), .val (.long vj4), .second, .val (.int z6_S0), .unset] []))
      refine own_go (fun t_ k => XS.iconst X7.here hx rfl (hb hby at_54) k) ?_
      show WP p e below _ (T7.setTop (mkF m 55 #[.val (.long q1), .second, .val (.long vj1), .second, .val (.int vi3), .val (.long vj4), .second, .val (.int z6_S0), .unset] [(.int (1 : Int32))]))
      refine own_go (fun t_ k => XS.goto X7.here hx rfl (pc0 := 55) (pc' := 59) rfl (hb hby at_55) (by decide) (by decide) k) ?_
      show WP p e below _ (T7.setTop (mkF m 59 #[.val (.long q1), .second, .val (.long vj1), .second, .val (.int vi3), .val (.long vj4), .second, .val (.int z6_S0), .unset] [(.int (1 : Int32))]))
      exact J10 T7 _ X7 N7 e7 _ (by rw [if_pos hc51_8])
    · refine own_go (fun t_ k => XS.ifYes X7.here hx rfl (pc0 := 51) (pc' := 58) rfl (hb hby at_51) rfl ((if0 _ _).trans (feq (mt (lw_eq _ _).mp hc51_8)).2) (by decide) (by decide) k) ?_
      show WP p e below _ (T7.setTop (mkF m 58 #[.val (.long q1), .second, .val (.long vj1), .second, .val (.int vi3), .val (.long vj4), .second, .val (.int z6_S0), .unset] []))
      refine own_go (fun t_ k => XS.iconst X7.here hx rfl (hb hby at_58) k) ?_
      show WP p e below _ (T7.setTop (mkF m 59 #[.val (.long q1), .second, .val (.long vj1), .second, .val (.int vi3), .val (.long vj4), .second, .val (.int z6_S0), .unset] [(.int (0 : Int32))]))
      exact J10 T7 _ X7 N7 e7 _ (by rw [if_neg hc51_8])
  by_cases hc21_5 : vi3 < (0 : Int32)
  · refine own_go (fun t_ k => XS.ifYes X2.here hx rfl (pc0 := 21) (pc' := 36) rfl (hb hby at_21) rfl ((if0 _ _).trans (tlt hc21_5).1) (by decide) (by decide) k) ?_
    show WP p e below _ (T2.setTop (mkF m 36 #[.val (.long q1), .second, .val (.long vj1), .second, .val (.int vi3), .val (.long vj4), .second, .unset, .unset] []))
    refine own_go (fun t_ k => XS.iconst X2.here hx rfl (hb hby at_36) k) ?_
    show WP p e below _ (T2.setTop (mkF m 37 #[.val (.long q1), .second, .val (.long vj1), .second, .val (.int vi3), .val (.long vj4), .second, .unset, .unset] [(.int (0 : Int32))]))
    exact J7 T2 _ X2 N2 e2 _ (by rw [if_pos hc21_5])
  · refine own_go (fun t_ k => XS.ifNo X2.here hx rfl (hb hby at_21) rfl ((if0 _ _).trans (flt hc21_5).1) k) ?_
    show WP p e below _ (T2.setTop (mkF m 24 #[.val (.long q1), .second, .val (.long vj1), .second, .val (.int vi3), .val (.long vj4), .second, .unset, .unset] []))
    refine own_go (fun t_ k => XS.iload X2.here hx rfl (hb hby at_24) rfl k) ?_
    show WP p e below _ (T2.setTop (mkF m 26 #[.val (.long q1), .second, .val (.long vj1), .second, .val (.int vi3), .val (.long vj4), .second, .unset, .unset] [(.int vi3)]))
    refine own_go (fun t_ k => XS.sipush X2.here hx rfl (hb hby at_26) k) ?_
    show WP p e below _ (T2.setTop (mkF m 29 #[.val (.long q1), .second, .val (.long vj1), .second, .val (.int vi3), .val (.long vj4), .second, .unset, .unset] [(.int (512 : Int32)), (.int vi3)]))
    by_cases hc29_15 : vi3 < (512 : Int32)
    · refine own_go (fun t_ k => XS.icmpNo X2.here hx rfl (hb hby at_29) rfl (tlt hc29_15).2.1 k) ?_
      show WP p e below _ (T2.setTop (mkF m 32 #[.val (.long q1), .second, .val (.long vj1), .second, .val (.int vi3), .val (.long vj4), .second, .unset, .unset] []))
      refine own_go (fun t_ k => XS.iconst X2.here hx rfl (hb hby at_32) k) ?_
      show WP p e below _ (T2.setTop (mkF m 33 #[.val (.long q1), .second, .val (.long vj1), .second, .val (.int vi3), .val (.long vj4), .second, .unset, .unset] [(.int (1 : Int32))]))
      refine own_go (fun t_ k => XS.goto X2.here hx rfl (pc0 := 33) (pc' := 37) rfl (hb hby at_33) (by decide) (by decide) k) ?_
      show WP p e below _ (T2.setTop (mkF m 37 #[.val (.long q1), .second, .val (.long vj1), .second, .val (.int vi3), .val (.long vj4), .second, .unset, .unset] [(.int (1 : Int32))]))
      exact J7 T2 _ X2 N2 e2 _ (by rw [if_neg hc21_5, if_pos hc29_15])
    · refine own_go (fun t_ k => XS.icmpYes X2.here hx rfl (pc0 := 29) (pc' := 36) rfl (hb hby at_29) rfl (flt hc29_15).2.1 (by decide) (by decide) k) ?_
      show WP p e below _ (T2.setTop (mkF m 36 #[.val (.long q1), .second, .val (.long vj1), .second, .val (.int vi3), .val (.long vj4), .second, .unset, .unset] []))
      refine own_go (fun t_ k => XS.iconst X2.here hx rfl (hb hby at_36) k) ?_
      show WP p e below _ (T2.setTop (mkF m 37 #[.val (.long q1), .second, .val (.long vj1), .second, .val (.int vi3), .val (.long vj4), .second, .unset, .unset] [(.int (0 : Int32))]))
      exact J7 T2 _ X2 N2 e2 _ (by rw [if_neg hc21_5, if_neg hc29_15])
set_option maxRecDepth 65536 in
set_option maxHeartbeats 40000000 in
theorem comes_1 {Post : Tables → Env → Array Value → State → Outcome → State → Prop} (hpost : ∀ tb e args s v u, (limb_1_1.after args s (.returned v) u = true ∧ limb_1_2.after args s (.returned v) u = true ∧ True) → FrameEnd s (.returned v) u (Jvm.fieldLocs frame_1_writes args s ++ Jvm.arrayLocs frame_1_arrays args s ++ Jvm.staticLocs frame_1_statics s) 0 0 → Post tb e args s (.returned v) u) :
    ArmFor flags0 classFile x code maxLocals ret World_1 tables_1 room_1 Calls_1 rest_1 Pre_1 Post := by
  intro l hfl _ _ p e ha hc hk s m args below hf hA hF happ hP
  obtain ⟨hcalls, hrest, hpre⟩ := hP
  obtain ⟨-, -, -, hnamed, -, -, -, hat⟩ := (Spec.applies_iff hf).mp happ
  obtain ⟨hg, hn⟩ := and_e (Cond.before_iff.mp (show (Jvm.Cond.and given_1 narrow_1).before args s = true from hpre))
  obtain ⟨g1, g2⟩ := and_e hg
  obtain ⟨w0, rfl⟩ : ∃ w0 : Value, args = #[w0] := by
    have hs : args.size = 1 := by simpa [Cond.value, given_1] using g1
    obtain ⟨L⟩ := args
    match L, hs with
    | [w0], _ => exact ⟨w0, rfl⟩
  have hw := fun d (hd : d ∈ tables_1) => atoms_spec (ws := Jvm.Cond.code x code maxLocals ret :: tables_1) hat d (List.mem_cons_of_mem _ hd)
  have hfit : Fit s := fun {y c} hc i hi => by
    obtain ⟨ha, rfl⟩ := Array.getElem?_eq_some_iff.mp hc
    have q := List.all_eq_true.mp ((Array.all_eq_true_iff_forall_mem.mp hF) _ (Array.getElem_mem ha)) i (List.mem_range.mpr hi)
    simpa [Array.getElem?_eq_getElem hi] using q
  obtain ⟨i0, ei0⟩ := isL_v g2
  obtain rfl : w0 = (.long i0) := Option.some.inj ei0
  obtain ⟨n, o, h1, h2, h3, _, L, rfl, ⟨rfl, N⟩, hq⟩ := rm0 l s _ hw tables_1 i0 s.heap s.heap.size (Nat.le_refl _) p e ha hc hk s m _ below hf ((Spec.applies_iff_loose hf).mp happ).1 ⟨rfl, State.Warmed39.refl s, rfl⟩ trivial
  refine ⟨n, _, h1, h2, h3, hpost _ _ _ _ _ _ ⟨Cond.after_iff.mpr rfl, Cond.after_iff.mpr (eq_i res_at (Term.int_eval (1)) rfl), trivial⟩ ⟨hq.1, hq.2.1, (hq.2.2.sift fun y hy => Or.inr (N y hy)).mono (by decide) (by decide)⟩⟩
theorem main_1_1 : Claimed_1_1 := comes_1 fun _ _ _ _ _ _ h hF => ⟨h.1, hF⟩
theorem main_1_2 : Claimed_1_2 := comes_1 fun _ _ _ _ _ _ h hF => ⟨h.2.1, hF⟩
end Jvm.Pilot.@@N@@
namespace Jvm.Pilot.@@N@@
open Jvm Jvm.ClassFile Sem Op Lib Jvm.Free Jvm.Stand Jvm.Pilot.@@N@@.Jvm.D
/-! MADE BY PROGRAM (witnessworld.py) out of the Statement's table words and the real class files: 9 classes; the members and pool entries that the words name. The judged class is class 1, her method 1. -/
namespace start1
open Jvm.ClassFile
def u (s : String) : CpInfo := .utf8 (stringToUtf16 s)
/-- a pool by its gaps: so many unusable entries, then the entry; so many at the end -/
def gap : Nat → List CpInfo → List CpInfo
  | 0, r => r
  | n + 1, r => .unusable :: gap n r
def poolList (es : List (Nat × CpInfo)) (last : Nat) : List CpInfo := es.foldr (fun e r => gap e.1 (e.2 :: r)) (gap last [])
def pool (es : List (Nat × CpInfo)) (last : Nat) : Array CpInfo := ⟨poolList es last⟩
def fileOf (pool : Array CpInfo) (this : Nat) (attrs : Array Attribute := #[]) (ms : Array MethodInfo := #[]) (fl : Nat := 33) (sup : Nat := 0) (ifs : Array Nat := #[]) (fds : Array FieldInfo := #[]) : ClassFile where
  minorVersion := 0
  majorVersion := 65
  constantPool := pool
  accessFlags := fl
  thisClass := this
  superClass := sup
  interfaces := ifs
  fields := fds
  methods := ms
  attributes := attrs
def plain (name : String) (sup : Option ClassId) : Class where
  name := name
  kind := .ordinary
  loader := none
  accessFlags := 33
  super := sup
  interfaces := #[]
  cf := none
  fields := #[]
  methods := #[]
  instanceTypes := #[]
  staticTypes := #[]
  resolved := #[]
  callSites := []
  init := .initialized
  statics := none
  mirror := none

def pool0 : Array CpInfo := pool [(5, u "<init>"), (0, u "()V"), (1, .class_ 10), (1, u "java/lang/Object")] 113

def k0m0 : Method := { name := "<init>", desc := "()V", sig := { parameters := [], returnType := none }, accessFlags := 1, code := none }
/-- java/lang/Object -/
def k0 : Class := { plain "java/lang/Object" none with
  accessFlags := 33
  interfaces := #[]
  cf := some (fileOf pool0 8 #[] #[{ accessFlags := 1, nameIndex := 5, descriptorIndex := 6, attributes := #[] }] 33 0 #[] #[])
  fields := #[]
  methods := #[k0m0]
  instanceTypes := #[]
  staticTypes := #[]
  resolved := Array.replicate 124 none
  statics := none }

def pool1 : Array CpInfo := pool [(2, .class_ 4), (1, u "java/lang/Object"), (0, u "<init>"), (0, u "()V"), (2, .long 9223372036854775807), (1, .methodref 12 13), (0, .class_ 14), (0, .nameAndType 15 16), (0, u "com/example/holdfast/holdfast/Tar"), (0, u "padding"), (0, u "(J)I"), (0, .long 511), (1, .class_ 20), (0, u "com/example/holdfast/holdfast/TarPaddingPinLaw"), (2, u "law"), (0, u "(J)Z")] 3

def k1m0 : Method := { name := "<init>", desc := "()V", sig := { parameters := [], returnType := none }, accessFlags := 2, code := none }
def k1c1 : Code := { maxStack := 4, maxLocals := 9, code := code, exceptionTable := #[], attributes := #[] }
def k1m1 : Method := { name := "law", desc := "(J)Z", sig := { parameters := [.long], returnType := some .boolean }, accessFlags := 9, code := some k1c1 }
/-- com/example/holdfast/holdfast/TarPaddingPinLaw -/
def k1 : Class := { plain "com/example/holdfast/holdfast/TarPaddingPinLaw" (some 0) with
  accessFlags := 49
  interfaces := #[]
  cf := some (fileOf pool1 19 #[] #[{ accessFlags := 2, nameIndex := 5, descriptorIndex := 6, attributes := #[] }, { accessFlags := 9, nameIndex := 23, descriptorIndex := 24, attributes := #[] }] 49 2 #[] #[])
  fields := #[]
  methods := #[k1m0, k1m1]
  instanceTypes := #[]
  staticTypes := #[]
  resolved := Array.replicate 28 none
  statics := none }

def pool2 : Array CpInfo := pool [(1, .class_ 2), (0, u "com/example/holdfast/holdfast/Tar"), (1, .class_ 6), (1, u "java/lang/Object"), (0, u "<init>"), (0, u "()V"), (111, u "ZEROS"), (0, u "[B"), (2, u "padding"), (0, u "(J)I"), (26, .long 512), (12, .class_ 166), (0, u "com/example/holdfast/holdfast/Tar$Entry"), (5, .class_ 174), (1, u "com/example/holdfast/holdfast/Tar$Fields"), (22, .class_ 199), (1, u "com/example/holdfast/holdfast/Tar$Reader"), (173, u "USTAR"), (40, u "BLOCK"), (0, u "I"), (2, u "RECORD"), (1, u "REGULAR"), (0, u "B"), (1, u "DIRECTORY"), (1, u "EXTENDED"), (1, u "DELETED"), (0, u "Ljava/lang/String;"), (0, u "NAME"), (1, u "NAME_BYTES"), (1, u "MODE"), (0, u "UID"), (1, u "GID"), (1, u "SIZE"), (1, u "MTIME"), (1, u "CHECKSUM"), (1, u "TYPE"), (1, u "MAGIC"), (1, u "DEV_MAJOR"), (1, u "DEV_MINOR"), (1, u "MAX_SIZE_FIELD"), (0, u "J"), (0, u "PAX_NAME"), (0, u "MAX_PAX_BYTES"), (1, u "METADATA_SEQ"), (0, u "METADATA_SHA256"), (0, u "METADATA_DELETED")] 57

def k2m0 : Method := { name := "<init>", desc := "()V", sig := { parameters := [], returnType := none }, accessFlags := 2, code := none }
def k2c1 : Code := { maxStack := 6, maxLocals := 2, code := prog_46_method_5_code, exceptionTable := #[], attributes := #[] }
def k2m1 : Method := { name := "padding", desc := "(J)I", sig := { parameters := [.long], returnType := some .int }, accessFlags := 8, code := some k2c1 }
/-- com/example/holdfast/holdfast/Tar -/
def k2 : Class := { plain "com/example/holdfast/holdfast/Tar" (some 0) with
  accessFlags := 48
  interfaces := #[]
  cf := some (fileOf pool2 1 #[.nestMembers #[172, 197, 165]] #[{ accessFlags := 2, nameIndex := 7, descriptorIndex := 8, attributes := #[] }, { accessFlags := 8, nameIndex := 124, descriptorIndex := 125, attributes := #[] }] 48 4 #[] #[{ accessFlags := 24, nameIndex := 414, descriptorIndex := 415, attributes := #[] }, { accessFlags := 26, nameIndex := 418, descriptorIndex := 415, attributes := #[] }, { accessFlags := 26, nameIndex := 120, descriptorIndex := 121, attributes := #[] }, { accessFlags := 26, nameIndex := 420, descriptorIndex := 421, attributes := #[] }, { accessFlags := 26, nameIndex := 423, descriptorIndex := 421, attributes := #[] }, { accessFlags := 26, nameIndex := 425, descriptorIndex := 421, attributes := #[] }, { accessFlags := 26, nameIndex := 427, descriptorIndex := 428, attributes := #[] }, { accessFlags := 26, nameIndex := 429, descriptorIndex := 415, attributes := #[] }, { accessFlags := 26, nameIndex := 431, descriptorIndex := 415, attributes := #[] }, { accessFlags := 26, nameIndex := 433, descriptorIndex := 415, attributes := #[] }, { accessFlags := 26, nameIndex := 434, descriptorIndex := 415, attributes := #[] }, { accessFlags := 26, nameIndex := 436, descriptorIndex := 415, attributes := #[] }, { accessFlags := 26, nameIndex := 438, descriptorIndex := 415, attributes := #[] }, { accessFlags := 26, nameIndex := 440, descriptorIndex := 415, attributes := #[] }, { accessFlags := 26, nameIndex := 442, descriptorIndex := 415, attributes := #[] }, { accessFlags := 26, nameIndex := 444, descriptorIndex := 415, attributes := #[] }, { accessFlags := 26, nameIndex := 446, descriptorIndex := 415, attributes := #[] }, { accessFlags := 26, nameIndex := 448, descriptorIndex := 415, attributes := #[] }, { accessFlags := 26, nameIndex := 450, descriptorIndex := 415, attributes := #[] }, { accessFlags := 26, nameIndex := 373, descriptorIndex := 121, attributes := #[] }, { accessFlags := 26, nameIndex := 452, descriptorIndex := 453, attributes := #[] }, { accessFlags := 26, nameIndex := 454, descriptorIndex := 428, attributes := #[] }, { accessFlags := 26, nameIndex := 455, descriptorIndex := 415, attributes := #[] }, { accessFlags := 26, nameIndex := 457, descriptorIndex := 428, attributes := #[] }, { accessFlags := 26, nameIndex := 458, descriptorIndex := 428, attributes := #[] }, { accessFlags := 26, nameIndex := 459, descriptorIndex := 428, attributes := #[] }])
  fields := #[{ name := "BLOCK", type := .int, accessFlags := 24, slot := 0, constantValue := 0 }, { name := "RECORD", type := .int, accessFlags := 26, slot := 1, constantValue := 0 }, { name := "ZEROS", type := (.array .byte), accessFlags := 26, slot := 2, constantValue := 0 }, { name := "REGULAR", type := .byte, accessFlags := 26, slot := 3, constantValue := 0 }, { name := "DIRECTORY", type := .byte, accessFlags := 26, slot := 4, constantValue := 0 }, { name := "EXTENDED", type := .byte, accessFlags := 26, slot := 5, constantValue := 0 }, { name := "DELETED", type := (.object "java/lang/String"), accessFlags := 26, slot := 6, constantValue := 0 }, { name := "NAME", type := .int, accessFlags := 26, slot := 7, constantValue := 0 }, { name := "NAME_BYTES", type := .int, accessFlags := 26, slot := 8, constantValue := 0 }, { name := "MODE", type := .int, accessFlags := 26, slot := 9, constantValue := 0 }, { name := "UID", type := .int, accessFlags := 26, slot := 10, constantValue := 0 }, { name := "GID", type := .int, accessFlags := 26, slot := 11, constantValue := 0 }, { name := "SIZE", type := .int, accessFlags := 26, slot := 12, constantValue := 0 }, { name := "MTIME", type := .int, accessFlags := 26, slot := 13, constantValue := 0 }, { name := "CHECKSUM", type := .int, accessFlags := 26, slot := 14, constantValue := 0 }, { name := "TYPE", type := .int, accessFlags := 26, slot := 15, constantValue := 0 }, { name := "MAGIC", type := .int, accessFlags := 26, slot := 16, constantValue := 0 }, { name := "DEV_MAJOR", type := .int, accessFlags := 26, slot := 17, constantValue := 0 }, { name := "DEV_MINOR", type := .int, accessFlags := 26, slot := 18, constantValue := 0 }, { name := "USTAR", type := (.array .byte), accessFlags := 26, slot := 19, constantValue := 0 }, { name := "MAX_SIZE_FIELD", type := .long, accessFlags := 26, slot := 20, constantValue := 0 }, { name := "PAX_NAME", type := (.object "java/lang/String"), accessFlags := 26, slot := 21, constantValue := 0 }, { name := "MAX_PAX_BYTES", type := .int, accessFlags := 26, slot := 22, constantValue := 0 }, { name := "METADATA_SEQ", type := (.object "java/lang/String"), accessFlags := 26, slot := 23, constantValue := 0 }, { name := "METADATA_SHA256", type := (.object "java/lang/String"), accessFlags := 26, slot := 24, constantValue := 0 }, { name := "METADATA_DELETED", type := (.object "java/lang/String"), accessFlags := 26, slot := 25, constantValue := 0 }]
  methods := #[k2m0, k2m1]
  instanceTypes := #[]
  staticTypes := #[.int, .int, (.array .byte), .byte, .byte, .byte, (.object "java/lang/String"), .int, .int, .int, .int, .int, .int, .int, .int, .int, .int, .int, .int, (.array .byte), .long, (.object "java/lang/String"), .int, (.object "java/lang/String"), (.object "java/lang/String"), (.object "java/lang/String")]
  resolved := Array.replicate 517 none
  statics := none }

def pool3 : Array CpInfo := pool [(1, u "java/lang/Cloneable"), (0, .class_ 1), (0, u "java/lang/Object"), (0, .class_ 3)] 3

/-- java/lang/Cloneable -/
def k3 : Class := { plain "java/lang/Cloneable" (some 0) with
  accessFlags := 1537
  interfaces := #[]
  cf := some (fileOf pool3 2 #[] #[] 1537 4 #[] #[])
  fields := #[]
  methods := #[]
  instanceTypes := #[]
  staticTypes := #[]
  resolved := Array.replicate 8 none
  statics := none }

def pool4 : Array CpInfo := pool [(1, u "java/io/Serializable"), (0, .class_ 1), (0, u "java/lang/Object"), (0, .class_ 3)] 3

/-- java/io/Serializable -/
def k4 : Class := { plain "java/io/Serializable" (some 0) with
  accessFlags := 1537
  interfaces := #[]
  cf := some (fileOf pool4 2 #[] #[] 1537 4 #[] #[])
  fields := #[]
  methods := #[]
  instanceTypes := #[]
  staticTypes := #[]
  resolved := Array.replicate 8 none
  statics := none }

/-- the primitive byte -/
def k5 : Class := { plain "byte" none with kind := .primitive 'B', accessFlags := 0x411 }
/-- [B -/
def k6 : Class := { plain "[B" (some 0) with kind := .array 5 .byte, interfaces := #[3, 4], accessFlags := 1041 }

/-- the primitive int -/
def k7 : Class := { plain "int" none with kind := .primitive 'I', accessFlags := 0x411 }
/-- [I -/
def k8 : Class := { plain "[I" (some 0) with kind := .array 7 .int, interfaces := #[3, 4], accessFlags := 1041 }

def heap : Heap := #[]
def classes : Array Class := #[k0, k1, k2, k3, k4, k5, k6, k7, k8]
def interned : List (Array UInt16 × Addr) := []
def slotsUsed : Nat := 0
def theMethod : MethodId := ⟨1, 1⟩
def args0 : Array Value := #[.long 5]
def aboutOver (below : List Frame) : State where
  vm := { classes := classes, interned := interned.toArray }
  heap := heap
  slotsUsed := slotsUsed
  threads := #[{ frames := .invoking theMethod args0 :: below }]
def below0 : List Frame := [.native { method := ⟨0, 0⟩, args := #[] }]
def about1 : State := aboutOver below0
def p0 : Program := .bare "" "" ""
def e0 : Env := launch0.env 0 0 0
theorem w_frames : about1.frames = Frame.invoking theMethod args0 :: below0 := rfl
set_option maxRecDepth 65536 in
theorem w_args : argsFit about1.vm theMethod args0 = true := by decide +kernel
set_option maxRecDepth 65536 in
theorem w_heap : heapFits about1 = true := by decide +kernel
set_option maxRecDepth 65536 in
theorem w_runnable : about1.curStatus? = some .runnable := by decide +kernel
set_option maxRecDepth 65536 in
theorem w_alone : about1.alone = true := by decide +kernel
set_option maxRecDepth 65536 in
theorem w_named : about1.methodNamed? x = some theMethod := by decide +kernel
set_option maxRecDepth 65536 in
theorem w_hears : about1.hears theMethod below0 = true := by decide +kernel
set_option maxRecDepth 65536 in
theorem w_ripe : about1.ripe theMethod args0 below0 = true := by decide +kernel
theorem w_running : about1.status = .running := rfl
set_option maxRecDepth 65536 in
theorem w_room : about1.hasRoom e0.platform room_1 = true :=
  launch0.hasRoom_least _ room_1 (by decide +kernel) (by decide +kernel) (by decide +kernel) (by decide +kernel) (by decide +kernel) (by decide +kernel)
theorem allAtoms_all (ts : List Jvm.Cond) (a : Array Jvm.Value) (st : Jvm.State) : (allAtoms ts).before a st = ts.all (fun c => c.before a st) := by
  induction ts with
  | nil => rfl
  | cons c t ih =>
    show (Jvm.Cond.and c (allAtoms t)).before a st = _
    rw [Jvm.Cond.before_and, ih, List.all_cons]
def words1 : List Jvm.Cond := Jvm.Cond.code x code maxLocals ret :: tables_1
/-- a 'code' word, met by the world's own term for the bytes: nothing is compared byte by byte -/
theorem code_word {y : MethodName} {bytes : ByteArray} {mx : Nat} {rt : Option FieldType} {a : Array Value} {s : State} {m : MethodId} {meth : Method} {c : Code} (h1 : s.methodNamed? y = some m) (h2 : s.vm.method? m = some meth) (h3 : meth.code = some c) (h4 : c.code = bytes)
    (h5 : (c.maxLocals == mx && c.exceptionTable.isEmpty && decide (c.maxStack ≤ mostOperands) && decide (meth.sig.returnType = rt) && !meth.locks && decide (parseMethodDescriptor y.desc = some meth.sig)) = true) : (Jvm.Cond.code y bytes mx rt).before a s = true := by
  simp only [Bool.and_eq_true, beq_iff_eq, Bool.not_eq_true', decide_eq_true_eq] at h5
  obtain ⟨⟨⟨⟨⟨g1, g2⟩, g3⟩, g4⟩, g5⟩, g6⟩ := h5
  simp [Cond.before, Cond.holds, Cond.value, h1, h2, h3, h4, g1, g2, g3, g4, g5, g6]
def isCode : Jvm.Cond → Bool
  | .code _ _ _ _ => true
  | _ => false
theorem all_split {L : List Jvm.Cond} {P : Jvm.Cond → Bool} (h1 : L.all (fun c => isCode c || P c) = true) (h2 : ∀ c ∈ L.filter isCode, P c = true) : L.all P = true := by
  refine List.all_eq_true.mpr fun c hc => ?_
  have h := List.all_eq_true.mp h1 c hc
  rcases Bool.eq_false_or_eq_true (isCode c) with hi | hi
  · exact h2 c (List.mem_filter.mpr ⟨hc, hi⟩)
  · simpa [hi] using h
set_option maxRecDepth 65536 in
theorem w_c0 : (Jvm.Cond.code x code maxLocals ret).before args0 about1 = true := code_word (m := ⟨1, 1⟩) (meth := k1m1) (c := k1c1) (by decide +kernel) rfl rfl rfl (by decide +kernel)
set_option maxRecDepth 65536 in
theorem w_c1 : (Jvm.Cond.code ({ cls := "com/example/holdfast/holdfast/Tar", name := "padding", desc := "(J)I" } : Jvm.MethodName) prog_46_method_5_code (2 : Nat) (Option.some Jvm.ClassFile.FieldType.int)).before args0 about1 = true := code_word (m := ⟨2, 1⟩) (meth := k2m1) (c := k2c1) (by decide +kernel) rfl rfl rfl (by decide +kernel)
def codes1 : List Jvm.Cond := [Jvm.Cond.code x code maxLocals ret, Jvm.Cond.code ({ cls := "com/example/holdfast/holdfast/Tar", name := "padding", desc := "(J)I" } : Jvm.MethodName) prog_46_method_5_code (2 : Nat) (Option.some Jvm.ClassFile.FieldType.int)]
set_option maxRecDepth 65536 in
theorem codes_eq : words1.filter isCode = codes1 := rfl
theorem w_codes : ∀ c ∈ words1.filter isCode, c.before args0 about1 = true := by
  rw [codes_eq]
  intro c hc
  simp only [codes1, List.mem_cons, List.not_mem_nil, or_false] at hc
  rcases hc with rfl | rfl
  · exact w_c0
  · exact w_c1
set_option maxRecDepth 65536 in
theorem w_t1 : words1.all (fun c => isCode c || c.before args0 about1) = true := by decide +kernel
theorem w_tables : (allAtoms (Jvm.Cond.code x code maxLocals ret :: tables_1)).before args0 about1 = true := by
  rw [allAtoms_all]
  show words1.all (fun c => c.before args0 about1) = true
  refine all_split ?_ w_codes
  rw [w_t1]
set_option maxRecDepth 65536 in
theorem w_case : (Jvm.Cond.and given_1 narrow_1).before args0 about1 = true := by decide +kernel
theorem w_applies : (headSpec (Jvm.Cond.code x code maxLocals ret :: tables_1) room_1).applies x e0.platform about1 = true :=
  (Spec.applies_iff w_frames).mpr ⟨w_running, w_runnable, w_alone, w_named, w_hears, w_ripe, w_room, w_tables⟩
theorem atStart : AtStart classFile x code maxLocals ret World_1 tables_1 room_1 Calls_1 rest_1 Pre_1 launch0 p0 e0 about1 theMethod args0 below0 :=
  ⟨lists_1, trivial, launch0.admits_env _ _ _, launch0.least_env, fairChoices_fair.cas, fairChoices_fair.clock, w_frames, w_args, w_heap, w_applies, trivial, trivial, w_case⟩
end start1
theorem witness_1 : WitnessClaimed_1 := ⟨start1.p0, start1.e0, start1.about1, start1.theMethod, start1.args0, start1.below0, start1.atStart⟩
end Jvm.Pilot.@@N@@
