import JvmDerived
import JvmDerived.Pilot.@@N@@Statement
import JvmDerived.Pilot.@@N@@Code
set_option linter.unusedVariables false
set_option linter.unusedSimpArgs false
namespace Jvm.Pilot.@@N@@
open Jvm Jvm.ClassFile Sem Op Lib Jvm.Free Jvm.Stand Jvm.LawKit Jvm.RoadKit Bundle Jvm.Pilot.@@N@@.Jvm.D
/-! The end of a walk, as a goal: from U the run ends, and G holds of the end. -/
def WP (p : Program) (e : Env) (below : List Frame) (G : State → Outcome → Prop) (U : State) : Prop :=
  ∃ s₂ o, Steps p.tables e below U s₂ ∧ s₂.status = .running ∧ Ended s₂ below o ∧ G s₂ o
def GG (Q : Option Value → Heap → List Loc → Prop) (s : State) (k n : Nat) : State → Outcome → Prop :=
  fun t o => ∃ v L, o = .returned v ∧ Q v t.heap L ∧ FrameEnd s o t L k n
theorem own_go {p : Program} {e : Env} {below : List Frame} {G : State → Outcome → Prop} {U V : State} (h : ∀ t, Steps p.tables e below V t → Steps p.tables e below U t) (w : WP p e below G V) : WP p e below G U := by
  obtain ⟨t, o, h1, h2⟩ := w
  exact ⟨t, o, h _ h1, h2⟩
/-- what a body that writes nothing leaves -/
def PQ (h0 : Heap) (n0 : Nat) (w : Value) (v : Option Value) (h : Heap) (L : List Loc) : Prop := v = some w ∧ Fr n0 L ∧ h = h0
/-- what the law leaves -/
def Q0 (n0 : Nat) (v : Option Value) (h : Heap) (L : List Loc) : Prop := v = some (.int 1) ∧ Fr n0 L
section Own
variable {p : Program} {l : Launch} {e : Env} {R : Room} {s : State} {m : MethodId} {args : Array Value} {below : List Frame} {meth : Method} {c : Code} {T : State} {locs : List Loc} {cells slots : Nat}
theorem own_mono (X : Stand p l e R s m args below meth c T locs cells slots) {k n : Nat} (h1 : cells ≤ k) (h2 : slots ≤ n) : Stand p l e R s m args below meth c T locs k n :=
  ⟨X.admits, X.cas, X.clock, X.frames, X.room, X.hears, X.method, X.code, X.here, X.tail, X.warmed, X.limits, X.bytes, X.same.mono h1 h2⟩
theorem own_retI (X : Stand p l e R s m args below meth c T locs cells slots) (hx : p.tables.exec = Jvm.exec) (hnl : meth.locks = false) (hret : meth.sig.returnType = some .int) {pc : Nat} {Ls : Array Slot} {z : Int32} {rest : List Value} (hd : decode c.code pc = .ok (.ireturn, 1)) {Q : Option Value → Heap → List Loc → Prop} {k n : Nat}
    (hq : Q (some (.int z)) T.heap locs) (hc : cells ≤ k) (hs : slots ≤ n) : WP p e below (GG Q s k n) (T.setTop (mkF m pc Ls (.int z :: rest))) := by
  obtain ⟨fs, hr, hrun, hended, hW, hsame⟩ := X.leave (v := some (.int z)) (fun h => by rw [hret] at h; cases h) hnl
  exact ⟨_, _, retOut X hx hret rfl (Or.inl ⟨rfl, Or.inl rfl, z, rfl⟩) hd hr, hrun, hended, _, _, rfl, hq, ⟨_, rfl⟩, hW, hsame.mono hc hs⟩
theorem own_retN (X : Stand p l e R s m args below meth c T locs cells slots) (hx : p.tables.exec = Jvm.exec) (hnl : meth.locks = false) {t : FieldType} (hret : meth.sig.returnType = some t) (ht : t = .boolean ∨ t = .byte ∨ t = .char ∨ t = .short) {pc : Nat} {Ls : Array Slot} {z : Int32} {rest : List Value} (hd : decode c.code pc = .ok (.ireturn, 1)) {Q : Option Value → Heap → List Loc → Prop} {k n : Nat}
    (hq : Q (some (.int (nar t z))) T.heap locs) (hc : cells ≤ k) (hs : slots ≤ n) : WP p e below (GG Q s k n) (T.setTop (mkF m pc Ls (.int z :: rest))) := by
  obtain ⟨fs, hr, hrun, hended, hW, hsame⟩ := X.leave (v := some (.int (nar t z))) (fun h => by rw [hret] at h; cases h) hnl
  exact ⟨_, _, retN X hx hret ht hd hr, hrun, hended, _, _, rfl, hq, ⟨_, rfl⟩, hW, hsame.mono hc hs⟩
theorem own_retZ (X : Stand p l e R s m args below meth c T locs cells slots) (hx : p.tables.exec = Jvm.exec) (hnl : meth.locks = false) (hret : meth.sig.returnType = some .boolean) {pc : Nat} {Ls : Array Slot} {z : Int32} {rest : List Value} (hd : decode c.code pc = .ok (.ireturn, 1)) (hz : z = 0 ∨ z = 1) {Q : Option Value → Heap → List Loc → Prop} {k n : Nat}
    (hq : Q (some (.int z)) T.heap locs) (hc : cells ≤ k) (hs : slots ≤ n) : WP p e below (GG Q s k n) (T.setTop (mkF m pc Ls (.int z :: rest))) := by
  have hb : nar .boolean z = z := by rcases hz with rfl | rfl <;> rfl
  exact own_retN X hx hnl hret (Or.inl rfl) hd (by rw [hb]; exact hq) hc hs
theorem own_retC (X : Stand p l e R s m args below meth c T locs cells slots) (hx : p.tables.exec = Jvm.exec) (hnl : meth.locks = false) (hret : meth.sig.returnType = some .char) {pc : Nat} {Ls : Array Slot} {z : Int32} {rest : List Value} (hd : decode c.code pc = .ok (.ireturn, 1)) {Q : Option Value → Heap → List Loc → Prop} {k n : Nat}
    (hq : Q (some (.int z.toUInt32.toUInt16.toUInt32.toInt32)) T.heap locs) (hc : cells ≤ k) (hs : slots ≤ n) : WP p e below (GG Q s k n) (T.setTop (mkF m pc Ls (.int z :: rest))) :=
  own_retN X hx hnl hret (Or.inr (Or.inr (Or.inl rfl))) hd hq hc hs
theorem own_retB (X : Stand p l e R s m args below meth c T locs cells slots) (hx : p.tables.exec = Jvm.exec) (hnl : meth.locks = false) (hret : meth.sig.returnType = some .byte) {pc : Nat} {Ls : Array Slot} {z : Int32} {rest : List Value} (hd : decode c.code pc = .ok (.ireturn, 1)) {Q : Option Value → Heap → List Loc → Prop} {k n : Nat}
    (hq : Q (some (.int z.toInt8.toInt32)) T.heap locs) (hc : cells ≤ k) (hs : slots ≤ n) : WP p e below (GG Q s k n) (T.setTop (mkF m pc Ls (.int z :: rest))) :=
  own_retN X hx hnl hret (Or.inr (Or.inl rfl)) hd hq hc hs
theorem own_retJ (X : Stand p l e R s m args below meth c T locs cells slots) (hx : p.tables.exec = Jvm.exec) (hnl : meth.locks = false) (hret : meth.sig.returnType = some .long) {pc : Nat} {Ls : Array Slot} {z : Int64} {rest : List Value} (hd : decode c.code pc = .ok (.lreturn, 1)) {Q : Option Value → Heap → List Loc → Prop} {k n : Nat}
    (hq : Q (some (.long z)) T.heap locs) (hc : cells ≤ k) (hs : slots ≤ n) : WP p e below (GG Q s k n) (T.setTop (mkF m pc Ls (.long z :: rest))) := by
  obtain ⟨fs, hr, hrun, hended, hW, hsame⟩ := X.leave (v := some (.long z)) (fun h => by rw [hret] at h; cases h) hnl
  exact ⟨_, _, retOut X hx hret rfl (Or.inr (Or.inl ⟨rfl, rfl, z, rfl⟩)) hd hr, hrun, hended, _, _, rfl, hq, ⟨_, rfl⟩, hW, hsame.mono hc hs⟩
theorem own_retA (X : Stand p l e R s m args below meth c T locs cells slots) (hx : p.tables.exec = Jvm.exec) (hnl : meth.locks = false) {t : FieldType} (hret : meth.sig.returnType = some t) (ht : t.isReference = true) {pc : Nat} {Ls : Array Slot} {w : Value} (hw : w.isRef = true) {rest : List Value} (hd : decode c.code pc = .ok (.areturn, 1)) {Q : Option Value → Heap → List Loc → Prop} {k n : Nat}
    (hq : Q (some w) T.heap locs) (hc : cells ≤ k) (hs : slots ≤ n) : WP p e below (GG Q s k n) (T.setTop (mkF m pc Ls (w :: rest))) := by
  obtain ⟨fs, hr, hrun, hended, hW, hsame⟩ := X.leave (v := some w) (fun h => by rw [hret] at h; cases h) hnl
  have hn : narrow t w = w := by cases t <;> first | rfl | (simp [FieldType.isReference] at ht)
  exact ⟨_, _, retOut X hx hret hn (Or.inr (Or.inr (Or.inr (Or.inr ⟨rfl, ht, hw⟩)))) hd hr, hrun, hended, _, _, rfl, hq, ⟨_, rfl⟩, hW, hsame.mono hc hs⟩
theorem own_ret0 (X : Stand p l e R s m args below meth c T locs cells slots) (hx : p.tables.exec = Jvm.exec) (hnl : meth.locks = false) (hret : meth.sig.returnType = none) {pc : Nat} {Ls : Array Slot} (hd : decode c.code pc = .ok (.return_, 1)) {Q : Option Value → Heap → List Loc → Prop} {k n : Nat}
    (hq : Q none T.heap locs) (hc : cells ≤ k) (hs : slots ≤ n) : WP p e below (GG Q s k n) (T.setTop (mkF m pc Ls [])) := by
  obtain ⟨fs, hr, hrun, hended, hW, hsame⟩ := X.leave (v := none) (fun _ => rfl) hnl
  exact ⟨_, _, X.returnOut hx hret hd hr, hrun, hended, _, _, rfl, hq, ⟨_, rfl⟩, hW, hsame.mono hc hs⟩
end Own

/-! the bits of an int or a long, as a natural -/
theorem nI_inj {x y : Int32} : x = y ↔ x.toBitVec.toNat = y.toBitVec.toNat := ⟨fun h => by rw [h], fun h => Int32.toBitVec_inj.mp (BitVec.eq_of_toNat_eq h)⟩
theorem nJ_inj {x y : Int64} : x = y ↔ x.toBitVec.toNat = y.toBitVec.toNat := ⟨fun h => by rw [h], fun h => Int64.toBitVec_inj.mp (BitVec.eq_of_toNat_eq h)⟩
theorem nI_and (x y : Int32) : (x &&& y).toBitVec.toNat = x.toBitVec.toNat &&& y.toBitVec.toNat := BitVec.toNat_and _ _
theorem nJ_and (x y : Int64) : (x &&& y).toBitVec.toNat = x.toBitVec.toNat &&& y.toBitVec.toNat := BitVec.toNat_and _ _
theorem nJ_or (x y : Int64) : (x ||| y).toBitVec.toNat = x.toBitVec.toNat ||| y.toBitVec.toNat := BitVec.toNat_or _ _
theorem nI_xor (x y : Int32) : (x ^^^ y).toBitVec.toNat = x.toBitVec.toNat ^^^ y.toBitVec.toNat := BitVec.toNat_xor _ _
theorem nJ_xor (x y : Int64) : (x ^^^ y).toBitVec.toNat = x.toBitVec.toNat ^^^ y.toBitVec.toNat := BitVec.toNat_xor _ _
theorem nJ_add (x y : Int64) : (x + y).toBitVec.toNat = (x.toBitVec.toNat + y.toBitVec.toNat) % 18446744073709551616 := BitVec.toNat_add _ _
theorem nJ_mul (x y : Int64) : (x * y).toBitVec.toNat = (x.toBitVec.toNat * y.toBitVec.toNat) % 18446744073709551616 := BitVec.toNat_mul _ _
theorem nJ_sub (x y : Int64) : (x - y).toBitVec.toNat = (18446744073709551616 - y.toBitVec.toNat + x.toBitVec.toNat) % 18446744073709551616 := BitVec.toNat_sub _ _
theorem nI_iushr (x q : Int32) (k : Nat) (hk : q.toBitVec.toNat % 32 = k) : ((x.toUInt32 >>> (q &&& 31).toUInt32).toInt32).toBitVec.toNat = x.toBitVec.toNat / 2 ^ k := by
  have h1 : (q &&& 31).toBitVec.toNat = k := by
    show (q.toBitVec &&& (31 : Int32).toBitVec).toNat = _
    rw [BitVec.toNat_and, show (31 : Int32).toBitVec.toNat = 2 ^ 5 - 1 from by decide, Nat.and_two_pow_sub_one_eq_mod]; exact hk
  show (x.toBitVec >>> ((q &&& 31).toBitVec % 32)).toNat = _
  rw [BitVec.ushiftRight_eq', BitVec.toNat_ushiftRight, Nat.shiftRight_eq_div_pow, BitVec.toNat_umod, h1]; congr 2; exact Nat.mod_eq_of_lt (by show k < 32; omega)
theorem nJ_lushr (x : Int64) (q : Int32) (k : Nat) (hk : q.toBitVec.toNat % 64 = k) : ((x.toUInt64 >>> (q &&& 0x3f).toInt64.toUInt64).toInt64).toBitVec.toNat = x.toBitVec.toNat / 2 ^ k := by
  have h5 := (sm64 q k hk).2
  show (x.toBitVec >>> ((q &&& 0x3f).toInt64.toBitVec % 64)).toNat = _
  rw [BitVec.ushiftRight_eq', BitVec.toNat_ushiftRight, Nat.shiftRight_eq_div_pow, BitVec.toNat_umod, (sm64 q k hk).1, BitVec.toNat_ofNat]; congr 2; show k % 2 ^ 64 % 64 = k; omega
theorem nJ_lshl (x : Int64) (q : Int32) (k : Nat) (hk : q.toBitVec.toNat % 64 = k) : (x <<< (q &&& 0x3f).toInt64).toBitVec.toNat = (x.toBitVec.toNat * 2 ^ k) % 18446744073709551616 := by
  show (x.toBitVec <<< ((q &&& 0x3f).toInt64.toBitVec.smod 64)).toNat = _
  rw [BitVec.shiftLeft_eq', (sm64 q k hk).1, smod64 k (sm64 q k hk).2, BitVec.toNat_shiftLeft, Nat.shiftLeft_eq]
theorem nI_toInt (x : Int32) : (x.toBitVec.toNat : Int) = x.toInt % 4294967296 := by
  have h := x.toBitVec.isLt
  show _ = x.toBitVec.toInt % 4294967296
  rw [BitVec.toInt_eq_toNat_cond]; split <;> omega
theorem nJ_toInt (x : Int64) : (x.toBitVec.toNat : Int) = x.toInt % 18446744073709551616 := by
  have h := x.toBitVec.isLt
  show _ = x.toBitVec.toInt % 18446744073709551616
  rw [BitVec.toInt_eq_toNat_cond]; split <;> omega
theorem nI_lt (x : Int32) : x.toBitVec.toNat < 4294967296 := x.toBitVec.isLt
theorem nJ_lt (x : Int64) : x.toBitVec.toNat < 18446744073709551616 := x.toBitVec.isLt
/-- bits beyond a mask of eight play no part -/
theorem and_low (n m : Nat) (h : m &&& 255 = m) : n &&& m = (n % 256) &&& m := by
  rw [show n % 256 = n &&& 255 from (Nat.and_two_pow_sub_one_eq_mod n 8).symm, Nat.and_assoc, Nat.and_comm 255 m, h]
theorem xor_low (n m : Nat) (h : m < 256) : (n ^^^ m) % 256 = (n % 256) ^^^ m := by
  rw [show (256 : Nat) = 2 ^ 8 from rfl, Nat.xor_mod_two_pow, Nat.mod_eq_of_lt (show m < 2 ^ 8 from h)]
/-- lanes -/
theorem and_lane {k l m h g : Nat} (hl : l < 2 ^ k) (hm : m < 2 ^ k) : (l + 2 ^ k * h) &&& (m + 2 ^ k * g) = (l &&& m) + 2 ^ k * (h &&& g) := by
  have h0 : l &&& m < 2 ^ k := Nat.lt_of_le_of_lt Nat.and_le_left hl
  have e1 := Nat.div_add_mod ((l + 2 ^ k * h) &&& (m + 2 ^ k * g)) (2 ^ k)
  rw [Nat.and_div_two_pow, Nat.and_mod_two_pow, Nat.add_mul_mod_self_left, Nat.add_mul_mod_self_left, Nat.mod_eq_of_lt hl, Nat.mod_eq_of_lt hm, Nat.add_mul_div_left _ _ (Nat.two_pow_pos k), Nat.add_mul_div_left _ _ (Nat.two_pow_pos k), Nat.div_eq_of_lt hl, Nat.div_eq_of_lt hm, Nat.zero_add, Nat.zero_add] at e1
  omega
theorem xor_lane {k l m h g : Nat} (hl : l < 2 ^ k) (hm : m < 2 ^ k) : (l + 2 ^ k * h) ^^^ (m + 2 ^ k * g) = (l ^^^ m) + 2 ^ k * (h ^^^ g) := by
  have e1 := Nat.div_add_mod ((l + 2 ^ k * h) ^^^ (m + 2 ^ k * g)) (2 ^ k)
  rw [Nat.xor_div_two_pow, Nat.xor_mod_two_pow, Nat.add_mul_mod_self_left, Nat.add_mul_mod_self_left, Nat.mod_eq_of_lt hl, Nat.mod_eq_of_lt hm, Nat.add_mul_div_left _ _ (Nat.two_pow_pos k), Nat.add_mul_div_left _ _ (Nat.two_pow_pos k), Nat.div_eq_of_lt hl, Nat.div_eq_of_lt hm, Nat.zero_add, Nat.zero_add] at e1
  omega
theorem or_lane {k l m h g : Nat} (hl : l < 2 ^ k) (hm : m < 2 ^ k) : (l + 2 ^ k * h) ||| (m + 2 ^ k * g) = (l ||| m) + 2 ^ k * (h ||| g) := by
  have e1 := Nat.div_add_mod ((l + 2 ^ k * h) ||| (m + 2 ^ k * g)) (2 ^ k)
  rw [Nat.or_div_two_pow, Nat.or_mod_two_pow, Nat.add_mul_mod_self_left, Nat.add_mul_mod_self_left, Nat.mod_eq_of_lt hl, Nat.mod_eq_of_lt hm, Nat.add_mul_div_left _ _ (Nat.two_pow_pos k), Nat.add_mul_div_left _ _ (Nat.two_pow_pos k), Nat.div_eq_of_lt hl, Nat.div_eq_of_lt hm, Nat.zero_add, Nat.zero_add] at e1
  omega

def f1 (p1 : Int32) : Int32 := ((p1 &&& (2147483647 : Int32)) % (100 : Int32))
theorem d1_0 : decode method_2_code 0 = .ok (.iload_n 0, 1) := by decide +kernel
theorem d1_1 : decode method_2_code 1 = .ok (.ldc 7, 2) := by decide +kernel
theorem d1_3 : decode method_2_code 3 = .ok (.iand, 1) := by decide +kernel
theorem d1_4 : decode method_2_code 4 = .ok (.bipush 100, 2) := by decide +kernel
theorem d1_6 : decode method_2_code 6 = .ok (.irem, 1) := by decide +kernel
theorem d1_7 : decode method_2_code 7 = .ok (.ireturn, 1) := by decide +kernel
theorem pn_0 : plainName "com/example/bittern/bittern/DigitsDigitsPinLaw" = true := by first | (simp [plainName, overriddenIn]; done) | decide +kernel
theorem ef_rm1 (m : MethodId) (x0 : Int32) : entryFrame m #[(.int x0)] 1 = mkF m 0 #[.val (.int x0)] [] := by first | (simp [entryFrame, mkF, argsToLocals, Value.category]; done) | rfl
set_option maxRecDepth 65536 in
set_option maxHeartbeats 40000000 in
theorem rm1 (l : Launch) (Z : State) (a0 : Array Value) (hw : ∀ d ∈ tables_1, d.before a0 Z = true) (ws : List Jvm.Cond) (p1 : Int32) (h0 : Heap) (n0 : Nat) :
    MetFree l (⟨"com/example/bittern/bittern/DigitsDigitsPinLaw", "pairValue", "(I)I"⟩ : MethodName) (head1 (Jvm.Cond.code (⟨"com/example/bittern/bittern/DigitsDigitsPinLaw", "pairValue", "(I)I"⟩ : MethodName) method_2_code 1 (some .int) :: ws) ({ frames := 0, cells := 0, slots := 0, locals := 0 } : Room)) (fun a U => a = #[(.int p1)] ∧ Z.Warmed39 U.vm ∧ U.heap = h0) (fun _ _ _ _ _ => True) (fun _ U o U' => ∃ v L, o = .returned v ∧ (PQ h0 n0 (.int (f1 p1))) v U'.heap L ∧ FrameEnd U o U' L ({ frames := 0, cells := 0, slots := 0, locals := 0 } : Room).cells ({ frames := 0, cells := 0, slots := 0, locals := 0 } : Room).slots) := by
  refine MetFree.of_bodySF (plainFor_of_name pn_0) hisR ?_
  intro p e s m args below meth c s₁ Bd hml0 hP hK
  obtain ⟨rfl, hZ, hh⟩ := hP
  have hx := Bd.exec
  have hby := Bd.bytes
  have hml : c.maxLocals = 1 := hml0
  have hown : s.vm.findClass "com/example/bittern/bittern/DigitsDigitsPinLaw" = some m.cls := findClass_of_methodNamed Bd.named
  have hnm := (name_of_methodNamed Bd.named Bd.method).1
  have X0 : Stand p l e ({ frames := 0, cells := 0, slots := 0, locals := 0 } : Room) s m #[(.int p1)] below meth c s₁ [] 0 0 := Stand.of_body Bd
  have e0 : s₁.heap = h0 := by rw [← hh, Bd.state]; rfl
  have N0 := Fr.nil n0
  show WP p e below (GG (PQ h0 n0 (.int (f1 p1))) s ({ frames := 0, cells := 0, slots := 0, locals := 0 } : Room).cells ({ frames := 0, cells := 0, slots := 0, locals := 0 } : Room).slots) (s₁.setTop (entryFrame m #[(.int p1)] 1))
  rw [ef_rm1 m p1]
  show WP p e below _ (s₁.setTop (mkF m 0 #[.val (.int p1)] []))
  refine own_go (fun t_ k => XS.iloadN X0.here hx rfl (hb hby d1_0) rfl k) ?_
  show WP p e below _ (s₁.setTop (mkF m 1 #[.val (.int p1)] [(.int p1)]))
  refine own_go (fun t_ k => X0.ldcInt hx hown (mvT hZ (hw _ (List.mem_of_getElem? (i := 4) rfl))) (g := (mkF m 1 #[.val (.int p1)] [(.int p1)])) rfl (hb hby d1_1) _ k) ?_
  show WP p e below _ (s₁.setTop (mkF m 3 #[.val (.int p1)] [(.int (2147483647 : Int32)), (.int p1)]))
  refine own_go (fun t_ k => XS.iand X0.here hx rfl (hb hby d1_3) rfl k) ?_
  show WP p e below _ (s₁.setTop (mkF m 4 #[.val (.int p1)] [(.int (p1 &&& (2147483647 : Int32)))]))
  refine own_go (fun t_ k => XS.bipush X0.here hx rfl (hb hby d1_4) k) ?_
  show WP p e below _ (s₁.setTop (mkF m 6 #[.val (.int p1)] [(.int (100 : Int32)), (.int (p1 &&& (2147483647 : Int32)))]))
  refine own_go (fun t_ k => iremM X0 hx rfl (hb hby d1_6) rfl (by decide) k) ?_
  show WP p e below _ (s₁.setTop (mkF m 7 #[.val (.int p1)] [(.int ((p1 &&& (2147483647 : Int32)) % (100 : Int32)))]))
  exact own_retI X0 hx Bd.notSynchronized Bd.returns (hb hby d1_7) (show PQ h0 n0 (.int (f1 p1)) _ _ _ from ⟨by rw [f1], N0, e0⟩) (by decide) (by decide)
def f2 (p1 : Int32) (p2 : Int32) : Int64 := (((((48 : Int32) + (p1 / (10 : Int32))).toInt64) <<< ((p2 + (8 : Int32)) &&& 0x3f).toInt64) ||| ((((48 : Int32) + (p1 % (10 : Int32))).toInt64) <<< (p2 &&& 0x3f).toInt64))
theorem d2_0 : decode method_3_code 0 = .ok (.bipush 48, 2) := by decide +kernel
theorem d2_2 : decode method_3_code 2 = .ok (.iload_n 0, 1) := by decide +kernel
theorem d2_3 : decode method_3_code 3 = .ok (.bipush 10, 2) := by decide +kernel
theorem d2_5 : decode method_3_code 5 = .ok (.idiv, 1) := by decide +kernel
theorem d2_6 : decode method_3_code 6 = .ok (.iadd, 1) := by decide +kernel
theorem d2_7 : decode method_3_code 7 = .ok (.i2l, 1) := by decide +kernel
theorem d2_8 : decode method_3_code 8 = .ok (.lstore_n 2, 1) := by decide +kernel
theorem d2_9 : decode method_3_code 9 = .ok (.bipush 48, 2) := by decide +kernel
theorem d2_11 : decode method_3_code 11 = .ok (.iload_n 0, 1) := by decide +kernel
theorem d2_12 : decode method_3_code 12 = .ok (.bipush 10, 2) := by decide +kernel
theorem d2_14 : decode method_3_code 14 = .ok (.irem, 1) := by decide +kernel
theorem d2_15 : decode method_3_code 15 = .ok (.iadd, 1) := by decide +kernel
theorem d2_16 : decode method_3_code 16 = .ok (.i2l, 1) := by decide +kernel
theorem d2_17 : decode method_3_code 17 = .ok (.lstore 4, 2) := by decide +kernel
theorem d2_19 : decode method_3_code 19 = .ok (.lload_n 2, 1) := by decide +kernel
theorem d2_20 : decode method_3_code 20 = .ok (.iload_n 1, 1) := by decide +kernel
theorem d2_21 : decode method_3_code 21 = .ok (.bipush 8, 2) := by decide +kernel
theorem d2_23 : decode method_3_code 23 = .ok (.iadd, 1) := by decide +kernel
theorem d2_24 : decode method_3_code 24 = .ok (.lshl, 1) := by decide +kernel
theorem d2_25 : decode method_3_code 25 = .ok (.lload 4, 2) := by decide +kernel
theorem d2_27 : decode method_3_code 27 = .ok (.iload_n 1, 1) := by decide +kernel
theorem d2_28 : decode method_3_code 28 = .ok (.lshl, 1) := by decide +kernel
theorem d2_29 : decode method_3_code 29 = .ok (.lor, 1) := by decide +kernel
theorem d2_30 : decode method_3_code 30 = .ok (.lreturn, 1) := by decide +kernel
theorem ef_rm2 (m : MethodId) (x0 : Int32) (x1 : Int32) : entryFrame m #[(.int x0), (.int x1)] 6 = mkF m 0 #[.val (.int x0), .val (.int x1), .unset, .unset, .unset, .unset] [] := by first | (simp [entryFrame, mkF, argsToLocals, Value.category]; done) | rfl
set_option maxRecDepth 65536 in
set_option maxHeartbeats 40000000 in
theorem rm2 (l : Launch) (Z : State) (a0 : Array Value) (hw : ∀ d ∈ tables_1, d.before a0 Z = true) (ws : List Jvm.Cond) (p1 : Int32) (p2 : Int32) (h0 : Heap) (n0 : Nat) :
    MetFree l (⟨"com/example/bittern/bittern/DigitsDigitsPinLaw", "lane", "(II)J"⟩ : MethodName) (head1 (Jvm.Cond.code (⟨"com/example/bittern/bittern/DigitsDigitsPinLaw", "lane", "(II)J"⟩ : MethodName) method_3_code 6 (some .long) :: ws) ({ frames := 0, cells := 0, slots := 0, locals := 0 } : Room)) (fun a U => a = #[(.int p1), (.int p2)] ∧ Z.Warmed39 U.vm ∧ U.heap = h0) (fun _ _ _ _ _ => True) (fun _ U o U' => ∃ v L, o = .returned v ∧ (PQ h0 n0 (.long (f2 p1 p2))) v U'.heap L ∧ FrameEnd U o U' L ({ frames := 0, cells := 0, slots := 0, locals := 0 } : Room).cells ({ frames := 0, cells := 0, slots := 0, locals := 0 } : Room).slots) := by
  refine MetFree.of_bodySF (plainFor_of_name pn_0) hisR ?_
  intro p e s m args below meth c s₁ Bd hml0 hP hK
  obtain ⟨rfl, hZ, hh⟩ := hP
  have hx := Bd.exec
  have hby := Bd.bytes
  have hml : c.maxLocals = 6 := hml0
  have hown : s.vm.findClass "com/example/bittern/bittern/DigitsDigitsPinLaw" = some m.cls := findClass_of_methodNamed Bd.named
  have hnm := (name_of_methodNamed Bd.named Bd.method).1
  have X0 : Stand p l e ({ frames := 0, cells := 0, slots := 0, locals := 0 } : Room) s m #[(.int p1), (.int p2)] below meth c s₁ [] 0 0 := Stand.of_body Bd
  have e0 : s₁.heap = h0 := by rw [← hh, Bd.state]; rfl
  have N0 := Fr.nil n0
  show WP p e below (GG (PQ h0 n0 (.long (f2 p1 p2))) s ({ frames := 0, cells := 0, slots := 0, locals := 0 } : Room).cells ({ frames := 0, cells := 0, slots := 0, locals := 0 } : Room).slots) (s₁.setTop (entryFrame m #[(.int p1), (.int p2)] 6))
  rw [ef_rm2 m p1 p2]
  show WP p e below _ (s₁.setTop (mkF m 0 #[.val (.int p1), .val (.int p2), .unset, .unset, .unset, .unset] []))
  refine own_go (fun t_ k => XS.bipush X0.here hx rfl (hb hby d2_0) k) ?_
  show WP p e below _ (s₁.setTop (mkF m 2 #[.val (.int p1), .val (.int p2), .unset, .unset, .unset, .unset] [(.int (48 : Int32))]))
  refine own_go (fun t_ k => XS.iloadN X0.here hx rfl (hb hby d2_2) rfl k) ?_
  show WP p e below _ (s₁.setTop (mkF m 3 #[.val (.int p1), .val (.int p2), .unset, .unset, .unset, .unset] [(.int p1), (.int (48 : Int32))]))
  refine own_go (fun t_ k => XS.bipush X0.here hx rfl (hb hby d2_3) k) ?_
  show WP p e below _ (s₁.setTop (mkF m 5 #[.val (.int p1), .val (.int p2), .unset, .unset, .unset, .unset] [(.int (10 : Int32)), (.int p1), (.int (48 : Int32))]))
  refine own_go (fun t_ k => XS.idiv X0.here hx rfl (hb hby d2_5) rfl (by decide) k) ?_
  show WP p e below _ (s₁.setTop (mkF m 6 #[.val (.int p1), .val (.int p2), .unset, .unset, .unset, .unset] [(.int (p1 / (10 : Int32))), (.int (48 : Int32))]))
  refine own_go (fun t_ k => XS.iadd X0.here hx rfl (hb hby d2_6) rfl k) ?_
  show WP p e below _ (s₁.setTop (mkF m 7 #[.val (.int p1), .val (.int p2), .unset, .unset, .unset, .unset] [(.int ((48 : Int32) + (p1 / (10 : Int32))))]))
  refine own_go (fun t_ k => XS.i2l X0.here hx rfl (hb hby d2_7) rfl k) ?_
  show WP p e below _ (s₁.setTop (mkF m 8 #[.val (.int p1), .val (.int p2), .unset, .unset, .unset, .unset] [(.long (((48 : Int32) + (p1 / (10 : Int32))).toInt64))]))
  refine own_go (fun t_ k => XS.lstoreN X0.here hx rfl (hb hby d2_8) rfl (l' := #[.val (.int p1), .val (.int p2), .val (.long (((48 : Int32) + (p1 / (10 : Int32))).toInt64)), .second, .unset, .unset]) rfl k) ?_
  show WP p e below _ (s₁.setTop (mkF m 9 #[.val (.int p1), .val (.int p2), .val (.long (((48 : Int32) + (p1 / (10 : Int32))).toInt64)), .second, .unset, .unset] []))
  refine own_go (fun t_ k => XS.bipush X0.here hx rfl (hb hby d2_9) k) ?_
  show WP p e below _ (s₁.setTop (mkF m 11 #[.val (.int p1), .val (.int p2), .val (.long (((48 : Int32) + (p1 / (10 : Int32))).toInt64)), .second, .unset, .unset] [(.int (48 : Int32))]))
  refine own_go (fun t_ k => XS.iloadN X0.here hx rfl (hb hby d2_11) rfl k) ?_
  show WP p e below _ (s₁.setTop (mkF m 12 #[.val (.int p1), .val (.int p2), .val (.long (((48 : Int32) + (p1 / (10 : Int32))).toInt64)), .second, .unset, .unset] [(.int p1), (.int (48 : Int32))]))
  refine own_go (fun t_ k => XS.bipush X0.here hx rfl (hb hby d2_12) k) ?_
  show WP p e below _ (s₁.setTop (mkF m 14 #[.val (.int p1), .val (.int p2), .val (.long (((48 : Int32) + (p1 / (10 : Int32))).toInt64)), .second, .unset, .unset] [(.int (10 : Int32)), (.int p1), (.int (48 : Int32))]))
  refine own_go (fun t_ k => iremM X0 hx rfl (hb hby d2_14) rfl (by decide) k) ?_
  show WP p e below _ (s₁.setTop (mkF m 15 #[.val (.int p1), .val (.int p2), .val (.long (((48 : Int32) + (p1 / (10 : Int32))).toInt64)), .second, .unset, .unset] [(.int (p1 % (10 : Int32))), (.int (48 : Int32))]))
  refine own_go (fun t_ k => XS.iadd X0.here hx rfl (hb hby d2_15) rfl k) ?_
  show WP p e below _ (s₁.setTop (mkF m 16 #[.val (.int p1), .val (.int p2), .val (.long (((48 : Int32) + (p1 / (10 : Int32))).toInt64)), .second, .unset, .unset] [(.int ((48 : Int32) + (p1 % (10 : Int32))))]))
  refine own_go (fun t_ k => XS.i2l X0.here hx rfl (hb hby d2_16) rfl k) ?_
  show WP p e below _ (s₁.setTop (mkF m 17 #[.val (.int p1), .val (.int p2), .val (.long (((48 : Int32) + (p1 / (10 : Int32))).toInt64)), .second, .unset, .unset] [(.long (((48 : Int32) + (p1 % (10 : Int32))).toInt64))]))
  refine own_go (fun t_ k => XS.lstore X0.here hx rfl (hb hby d2_17) rfl (l' := #[.val (.int p1), .val (.int p2), .val (.long (((48 : Int32) + (p1 / (10 : Int32))).toInt64)), .second, .val (.long (((48 : Int32) + (p1 % (10 : Int32))).toInt64)), .second]) rfl k) ?_
  show WP p e below _ (s₁.setTop (mkF m 19 #[.val (.int p1), .val (.int p2), .val (.long (((48 : Int32) + (p1 / (10 : Int32))).toInt64)), .second, .val (.long (((48 : Int32) + (p1 % (10 : Int32))).toInt64)), .second] []))
  refine own_go (fun t_ k => XS.lloadN X0.here hx rfl (hb hby d2_19) rfl k) ?_
  show WP p e below _ (s₁.setTop (mkF m 20 #[.val (.int p1), .val (.int p2), .val (.long (((48 : Int32) + (p1 / (10 : Int32))).toInt64)), .second, .val (.long (((48 : Int32) + (p1 % (10 : Int32))).toInt64)), .second] [(.long (((48 : Int32) + (p1 / (10 : Int32))).toInt64))]))
  refine own_go (fun t_ k => XS.iloadN X0.here hx rfl (hb hby d2_20) rfl k) ?_
  show WP p e below _ (s₁.setTop (mkF m 21 #[.val (.int p1), .val (.int p2), .val (.long (((48 : Int32) + (p1 / (10 : Int32))).toInt64)), .second, .val (.long (((48 : Int32) + (p1 % (10 : Int32))).toInt64)), .second] [(.int p2), (.long (((48 : Int32) + (p1 / (10 : Int32))).toInt64))]))
  refine own_go (fun t_ k => XS.bipush X0.here hx rfl (hb hby d2_21) k) ?_
  show WP p e below _ (s₁.setTop (mkF m 23 #[.val (.int p1), .val (.int p2), .val (.long (((48 : Int32) + (p1 / (10 : Int32))).toInt64)), .second, .val (.long (((48 : Int32) + (p1 % (10 : Int32))).toInt64)), .second] [(.int (8 : Int32)), (.int p2), (.long (((48 : Int32) + (p1 / (10 : Int32))).toInt64))]))
  refine own_go (fun t_ k => XS.iadd X0.here hx rfl (hb hby d2_23) rfl k) ?_
  show WP p e below _ (s₁.setTop (mkF m 24 #[.val (.int p1), .val (.int p2), .val (.long (((48 : Int32) + (p1 / (10 : Int32))).toInt64)), .second, .val (.long (((48 : Int32) + (p1 % (10 : Int32))).toInt64)), .second] [(.int (p2 + (8 : Int32))), (.long (((48 : Int32) + (p1 / (10 : Int32))).toInt64))]))
  refine own_go (fun t_ k => XS.lshl X0.here hx rfl (hb hby d2_24) rfl k) ?_
  show WP p e below _ (s₁.setTop (mkF m 25 #[.val (.int p1), .val (.int p2), .val (.long (((48 : Int32) + (p1 / (10 : Int32))).toInt64)), .second, .val (.long (((48 : Int32) + (p1 % (10 : Int32))).toInt64)), .second] [(.long ((((48 : Int32) + (p1 / (10 : Int32))).toInt64) <<< ((p2 + (8 : Int32)) &&& 0x3f).toInt64))]))
  refine own_go (fun t_ k => XS.lload X0.here hx rfl (hb hby d2_25) rfl k) ?_
  show WP p e below _ (s₁.setTop (mkF m 27 #[.val (.int p1), .val (.int p2), .val (.long (((48 : Int32) + (p1 / (10 : Int32))).toInt64)), .second, .val (.long (((48 : Int32) + (p1 % (10 : Int32))).toInt64)), .second] [(.long (((48 : Int32) + (p1 % (10 : Int32))).toInt64)), (.long ((((48 : Int32) + (p1 / (10 : Int32))).toInt64) <<< ((p2 + (8 : Int32)) &&& 0x3f).toInt64))]))
  refine own_go (fun t_ k => XS.iloadN X0.here hx rfl (hb hby d2_27) rfl k) ?_
  show WP p e below _ (s₁.setTop (mkF m 28 #[.val (.int p1), .val (.int p2), .val (.long (((48 : Int32) + (p1 / (10 : Int32))).toInt64)), .second, .val (.long (((48 : Int32) + (p1 % (10 : Int32))).toInt64)), .second] [(.int p2), (.long (((48 : Int32) + (p1 % (10 : Int32))).toInt64)), (.long ((((48 : Int32) + (p1 / (10 : Int32))).toInt64) <<< ((p2 + (8 : Int32)) &&& 0x3f).toInt64))]))
  refine own_go (fun t_ k => XS.lshl X0.here hx rfl (hb hby d2_28) rfl k) ?_
  show WP p e below _ (s₁.setTop (mkF m 29 #[.val (.int p1), .val (.int p2), .val (.long (((48 : Int32) + (p1 / (10 : Int32))).toInt64)), .second, .val (.long (((48 : Int32) + (p1 % (10 : Int32))).toInt64)), .second] [(.long ((((48 : Int32) + (p1 % (10 : Int32))).toInt64) <<< (p2 &&& 0x3f).toInt64)), (.long ((((48 : Int32) + (p1 / (10 : Int32))).toInt64) <<< ((p2 + (8 : Int32)) &&& 0x3f).toInt64))]))
  refine own_go (fun t_ k => XS.lor X0.here hx rfl (hb hby d2_29) rfl k) ?_
  show WP p e below _ (s₁.setTop (mkF m 30 #[.val (.int p1), .val (.int p2), .val (.long (((48 : Int32) + (p1 / (10 : Int32))).toInt64)), .second, .val (.long (((48 : Int32) + (p1 % (10 : Int32))).toInt64)), .second] [(.long (((((48 : Int32) + (p1 / (10 : Int32))).toInt64) <<< ((p2 + (8 : Int32)) &&& 0x3f).toInt64) ||| ((((48 : Int32) + (p1 % (10 : Int32))).toInt64) <<< (p2 &&& 0x3f).toInt64)))]))
  exact own_retJ X0 hx Bd.notSynchronized Bd.returns (hb hby d2_30) (show PQ h0 n0 (.long (f2 p1 p2)) _ _ _ from ⟨by rw [f2], N0, e0⟩) (by decide) (by decide)
def f3 (q1 : Int64) : Int64 := (((((((q1 * (103 : Int64)).toUInt64 >>> ((10 : Int32) &&& 0x3f).toInt64.toUInt64).toInt64) &&& (4222189076152335 : Int64)) <<< ((8 : Int32) &&& 0x3f).toInt64) ||| (q1 - (((((q1 * (103 : Int64)).toUInt64 >>> ((10 : Int32) &&& 0x3f).toInt64.toUInt64).toInt64) &&& (4222189076152335 : Int64)) * (10 : Int64)))) + (3472328296227680304 : Int64))
theorem d3_0 : decode prog_5_method_12_code 0 = .ok (.lload_n 0, 1) := by decide +kernel
theorem d3_1 : decode prog_5_method_12_code 1 = .ok (.ldc2_w 60, 3) := by decide +kernel
theorem d3_4 : decode prog_5_method_12_code 4 = .ok (.lmul, 1) := by decide +kernel
theorem d3_5 : decode prog_5_method_12_code 5 = .ok (.bipush 10, 2) := by decide +kernel
theorem d3_7 : decode prog_5_method_12_code 7 = .ok (.lushr, 1) := by decide +kernel
theorem d3_8 : decode prog_5_method_12_code 8 = .ok (.ldc2_w 62, 3) := by decide +kernel
theorem d3_11 : decode prog_5_method_12_code 11 = .ok (.land, 1) := by decide +kernel
theorem d3_12 : decode prog_5_method_12_code 12 = .ok (.lstore_n 2, 1) := by decide +kernel
theorem d3_13 : decode prog_5_method_12_code 13 = .ok (.lload_n 0, 1) := by decide +kernel
theorem d3_14 : decode prog_5_method_12_code 14 = .ok (.lload_n 2, 1) := by decide +kernel
theorem d3_15 : decode prog_5_method_12_code 15 = .ok (.ldc2_w 58, 3) := by decide +kernel
theorem d3_18 : decode prog_5_method_12_code 18 = .ok (.lmul, 1) := by decide +kernel
theorem d3_19 : decode prog_5_method_12_code 19 = .ok (.lsub, 1) := by decide +kernel
theorem d3_20 : decode prog_5_method_12_code 20 = .ok (.lstore 4, 2) := by decide +kernel
theorem d3_22 : decode prog_5_method_12_code 22 = .ok (.lload_n 2, 1) := by decide +kernel
theorem d3_23 : decode prog_5_method_12_code 23 = .ok (.bipush 8, 2) := by decide +kernel
theorem d3_25 : decode prog_5_method_12_code 25 = .ok (.lshl, 1) := by decide +kernel
theorem d3_26 : decode prog_5_method_12_code 26 = .ok (.lload 4, 2) := by decide +kernel
theorem d3_28 : decode prog_5_method_12_code 28 = .ok (.lor, 1) := by decide +kernel
theorem d3_29 : decode prog_5_method_12_code 29 = .ok (.ldc2_w 50, 3) := by decide +kernel
theorem d3_32 : decode prog_5_method_12_code 32 = .ok (.ladd, 1) := by decide +kernel
theorem d3_33 : decode prog_5_method_12_code 33 = .ok (.lreturn, 1) := by decide +kernel
theorem pn_1 : plainName "com/example/bittern/bittern/Digits" = true := by first | (simp [plainName, overriddenIn]; done) | decide +kernel
theorem ef_rm3 (m : MethodId) (x0 : Int64) : entryFrame m #[(.long x0)] 6 = mkF m 0 #[.val (.long x0), .second, .unset, .unset, .unset, .unset] [] := by first | (simp [entryFrame, mkF, argsToLocals, Value.category]; done) | rfl
set_option maxRecDepth 65536 in
set_option maxHeartbeats 40000000 in
theorem rm3 (l : Launch) (Z : State) (a0 : Array Value) (hw : ∀ d ∈ tables_1, d.before a0 Z = true) (ws : List Jvm.Cond) (q1 : Int64) (h0 : Heap) (n0 : Nat) :
    MetFree l (⟨"com/example/bittern/bittern/Digits", "digits", "(J)J"⟩ : MethodName) (head1 (Jvm.Cond.code (⟨"com/example/bittern/bittern/Digits", "digits", "(J)J"⟩ : MethodName) prog_5_method_12_code 6 (some .long) :: ws) ({ frames := 0, cells := 0, slots := 0, locals := 0 } : Room)) (fun a U => a = #[(.long q1)] ∧ Z.Warmed39 U.vm ∧ U.heap = h0) (fun _ _ _ _ _ => True) (fun _ U o U' => ∃ v L, o = .returned v ∧ (PQ h0 n0 (.long (f3 q1))) v U'.heap L ∧ FrameEnd U o U' L ({ frames := 0, cells := 0, slots := 0, locals := 0 } : Room).cells ({ frames := 0, cells := 0, slots := 0, locals := 0 } : Room).slots) := by
  refine MetFree.of_bodySF (plainFor_of_name pn_1) hisR ?_
  intro p e s m args below meth c s₁ Bd hml0 hP hK
  obtain ⟨rfl, hZ, hh⟩ := hP
  have hx := Bd.exec
  have hby := Bd.bytes
  have hml : c.maxLocals = 6 := hml0
  have hown : s.vm.findClass "com/example/bittern/bittern/Digits" = some m.cls := findClass_of_methodNamed Bd.named
  have hnm := (name_of_methodNamed Bd.named Bd.method).1
  have X0 : Stand p l e ({ frames := 0, cells := 0, slots := 0, locals := 0 } : Room) s m #[(.long q1)] below meth c s₁ [] 0 0 := Stand.of_body Bd
  have e0 : s₁.heap = h0 := by rw [← hh, Bd.state]; rfl
  have N0 := Fr.nil n0
  show WP p e below (GG (PQ h0 n0 (.long (f3 q1))) s ({ frames := 0, cells := 0, slots := 0, locals := 0 } : Room).cells ({ frames := 0, cells := 0, slots := 0, locals := 0 } : Room).slots) (s₁.setTop (entryFrame m #[(.long q1)] 6))
  rw [ef_rm3 m q1]
  show WP p e below _ (s₁.setTop (mkF m 0 #[.val (.long q1), .second, .unset, .unset, .unset, .unset] []))
  refine own_go (fun t_ k => XS.lloadN X0.here hx rfl (hb hby d3_0) rfl k) ?_
  show WP p e below _ (s₁.setTop (mkF m 1 #[.val (.long q1), .second, .unset, .unset, .unset, .unset] [(.long q1)]))
  refine own_go (fun t_ k => X0.ldc2Long hx hown (mvT hZ (hw _ (List.mem_of_getElem? (i := 12) rfl))) (g := (mkF m 1 #[.val (.long q1), .second, .unset, .unset, .unset, .unset] [(.long q1)])) rfl (hb hby d3_1) _ k) ?_
  show WP p e below _ (s₁.setTop (mkF m 4 #[.val (.long q1), .second, .unset, .unset, .unset, .unset] [(.long (103 : Int64)), (.long q1)]))
  refine own_go (fun t_ k => XS.lmul X0.here hx rfl (hb hby d3_4) rfl k) ?_
  show WP p e below _ (s₁.setTop (mkF m 5 #[.val (.long q1), .second, .unset, .unset, .unset, .unset] [(.long (q1 * (103 : Int64)))]))
  refine own_go (fun t_ k => XS.bipush X0.here hx rfl (hb hby d3_5) k) ?_
  show WP p e below _ (s₁.setTop (mkF m 7 #[.val (.long q1), .second, .unset, .unset, .unset, .unset] [(.int (10 : Int32)), (.long (q1 * (103 : Int64)))]))
  refine own_go (fun t_ k => XS.lushr X0.here hx rfl (hb hby d3_7) rfl k) ?_
  show WP p e below _ (s₁.setTop (mkF m 8 #[.val (.long q1), .second, .unset, .unset, .unset, .unset] [(.long (((q1 * (103 : Int64)).toUInt64 >>> ((10 : Int32) &&& 0x3f).toInt64.toUInt64).toInt64))]))
  refine own_go (fun t_ k => X0.ldc2Long hx hown (mvT hZ (hw _ (List.mem_of_getElem? (i := 13) rfl))) (g := (mkF m 8 #[.val (.long q1), .second, .unset, .unset, .unset, .unset] [(.long (((q1 * (103 : Int64)).toUInt64 >>> ((10 : Int32) &&& 0x3f).toInt64.toUInt64).toInt64))])) rfl (hb hby d3_8) _ k) ?_
  show WP p e below _ (s₁.setTop (mkF m 11 #[.val (.long q1), .second, .unset, .unset, .unset, .unset] [(.long (4222189076152335 : Int64)), (.long (((q1 * (103 : Int64)).toUInt64 >>> ((10 : Int32) &&& 0x3f).toInt64.toUInt64).toInt64))]))
  refine own_go (fun t_ k => XS.land X0.here hx rfl (hb hby d3_11) rfl k) ?_
  show WP p e below _ (s₁.setTop (mkF m 12 #[.val (.long q1), .second, .unset, .unset, .unset, .unset] [(.long ((((q1 * (103 : Int64)).toUInt64 >>> ((10 : Int32) &&& 0x3f).toInt64.toUInt64).toInt64) &&& (4222189076152335 : Int64)))]))
  refine own_go (fun t_ k => XS.lstoreN X0.here hx rfl (hb hby d3_12) rfl (l' := #[.val (.long q1), .second, .val (.long ((((q1 * (103 : Int64)).toUInt64 >>> ((10 : Int32) &&& 0x3f).toInt64.toUInt64).toInt64) &&& (4222189076152335 : Int64))), .second, .unset, .unset]) rfl k) ?_
  show WP p e below _ (s₁.setTop (mkF m 13 #[.val (.long q1), .second, .val (.long ((((q1 * (103 : Int64)).toUInt64 >>> ((10 : Int32) &&& 0x3f).toInt64.toUInt64).toInt64) &&& (4222189076152335 : Int64))), .second, .unset, .unset] []))
  refine own_go (fun t_ k => XS.lloadN X0.here hx rfl (hb hby d3_13) rfl k) ?_
  show WP p e below _ (s₁.setTop (mkF m 14 #[.val (.long q1), .second, .val (.long ((((q1 * (103 : Int64)).toUInt64 >>> ((10 : Int32) &&& 0x3f).toInt64.toUInt64).toInt64) &&& (4222189076152335 : Int64))), .second, .unset, .unset] [(.long q1)]))
  refine own_go (fun t_ k => XS.lloadN X0.here hx rfl (hb hby d3_14) rfl k) ?_
  show WP p e below _ (s₁.setTop (mkF m 15 #[.val (.long q1), .second, .val (.long ((((q1 * (103 : Int64)).toUInt64 >>> ((10 : Int32) &&& 0x3f).toInt64.toUInt64).toInt64) &&& (4222189076152335 : Int64))), .second, .unset, .unset] [(.long ((((q1 * (103 : Int64)).toUInt64 >>> ((10 : Int32) &&& 0x3f).toInt64.toUInt64).toInt64) &&& (4222189076152335 : Int64))), (.long q1)]))
  refine own_go (fun t_ k => X0.ldc2Long hx hown (mvT hZ (hw _ (List.mem_of_getElem? (i := 14) rfl))) (g := (mkF m 15 #[.val (.long q1), .second, .val (.long ((((q1 * (103 : Int64)).toUInt64 >>> ((10 : Int32) &&& 0x3f).toInt64.toUInt64).toInt64) &&& (4222189076152335 : Int64))), .second, .unset, .unset] [(.long ((((q1 * (103 : Int64)).toUInt64 >>> ((10 : Int32) &&& 0x3f).toInt64.toUInt64).toInt64) &&& (4222189076152335 : Int64))), (.long q1)])) rfl (hb hby d3_15) _ k) ?_
  show WP p e below _ (s₁.setTop (mkF m 18 #[.val (.long q1), .second, .val (.long ((((q1 * (103 : Int64)).toUInt64 >>> ((10 : Int32) &&& 0x3f).toInt64.toUInt64).toInt64) &&& (4222189076152335 : Int64))), .second, .unset, .unset] [(.long (10 : Int64)), (.long ((((q1 * (103 : Int64)).toUInt64 >>> ((10 : Int32) &&& 0x3f).toInt64.toUInt64).toInt64) &&& (4222189076152335 : Int64))), (.long q1)]))
  refine own_go (fun t_ k => XS.lmul X0.here hx rfl (hb hby d3_18) rfl k) ?_
  show WP p e below _ (s₁.setTop (mkF m 19 #[.val (.long q1), .second, .val (.long ((((q1 * (103 : Int64)).toUInt64 >>> ((10 : Int32) &&& 0x3f).toInt64.toUInt64).toInt64) &&& (4222189076152335 : Int64))), .second, .unset, .unset] [(.long (((((q1 * (103 : Int64)).toUInt64 >>> ((10 : Int32) &&& 0x3f).toInt64.toUInt64).toInt64) &&& (4222189076152335 : Int64)) * (10 : Int64))), (.long q1)]))
  refine own_go (fun t_ k => XS.lsub X0.here hx rfl (hb hby d3_19) rfl k) ?_
  show WP p e below _ (s₁.setTop (mkF m 20 #[.val (.long q1), .second, .val (.long ((((q1 * (103 : Int64)).toUInt64 >>> ((10 : Int32) &&& 0x3f).toInt64.toUInt64).toInt64) &&& (4222189076152335 : Int64))), .second, .unset, .unset] [(.long (q1 - (((((q1 * (103 : Int64)).toUInt64 >>> ((10 : Int32) &&& 0x3f).toInt64.toUInt64).toInt64) &&& (4222189076152335 : Int64)) * (10 : Int64))))]))
  refine own_go (fun t_ k => XS.lstore X0.here hx rfl (hb hby d3_20) rfl (l' := #[.val (.long q1), .second, .val (.long ((((q1 * (103 : Int64)).toUInt64 >>> ((10 : Int32) &&& 0x3f).toInt64.toUInt64).toInt64) &&& (4222189076152335 : Int64))), .second, .val (.long (q1 - (((((q1 * (103 : Int64)).toUInt64 >>> ((10 : Int32) &&& 0x3f).toInt64.toUInt64).toInt64) &&& (4222189076152335 : Int64)) * (10 : Int64)))), .second]) rfl k) ?_
  show WP p e below _ (s₁.setTop (mkF m 22 #[.val (.long q1), .second, .val (.long ((((q1 * (103 : Int64)).toUInt64 >>> ((10 : Int32) &&& 0x3f).toInt64.toUInt64).toInt64) &&& (4222189076152335 : Int64))), .second, .val (.long (q1 - (((((q1 * (103 : Int64)).toUInt64 >>> ((10 : Int32) &&& 0x3f).toInt64.toUInt64).toInt64) &&& (4222189076152335 : Int64)) * (10 : Int64)))), .second] []))
  refine own_go (fun t_ k => XS.lloadN X0.here hx rfl (hb hby d3_22) rfl k) ?_
  show WP p e below _ (s₁.setTop (mkF m 23 #[.val (.long q1), .second, .val (.long ((((q1 * (103 : Int64)).toUInt64 >>> ((10 : Int32) &&& 0x3f).toInt64.toUInt64).toInt64) &&& (4222189076152335 : Int64))), .second, .val (.long (q1 - (((((q1 * (103 : Int64)).toUInt64 >>> ((10 : Int32) &&& 0x3f).toInt64.toUInt64).toInt64) &&& (4222189076152335 : Int64)) * (10 : Int64)))), .second] [(.long ((((q1 * (103 : Int64)).toUInt64 >>> ((10 : Int32) &&& 0x3f).toInt64.toUInt64).toInt64) &&& (4222189076152335 : Int64)))]))
  refine own_go (fun t_ k => XS.bipush X0.here hx rfl (hb hby d3_23) k) ?_
  show WP p e below _ (s₁.setTop (mkF m 25 #[.val (.long q1), .second, .val (.long ((((q1 * (103 : Int64)).toUInt64 >>> ((10 : Int32) &&& 0x3f).toInt64.toUInt64).toInt64) &&& (4222189076152335 : Int64))), .second, .val (.long (q1 - (((((q1 * (103 : Int64)).toUInt64 >>> ((10 : Int32) &&& 0x3f).toInt64.toUInt64).toInt64) &&& (4222189076152335 : Int64)) * (10 : Int64)))), .second] [(.int (8 : Int32)), (.long ((((q1 * (103 : Int64)).toUInt64 >>> ((10 : Int32) &&& 0x3f).toInt64.toUInt64).toInt64) &&& (4222189076152335 : Int64)))]))
  refine own_go (fun t_ k => XS.lshl X0.here hx rfl (hb hby d3_25) rfl k) ?_
  show WP p e below _ (s₁.setTop (mkF m 26 #[.val (.long q1), .second, .val (.long ((((q1 * (103 : Int64)).toUInt64 >>> ((10 : Int32) &&& 0x3f).toInt64.toUInt64).toInt64) &&& (4222189076152335 : Int64))), .second, .val (.long (q1 - (((((q1 * (103 : Int64)).toUInt64 >>> ((10 : Int32) &&& 0x3f).toInt64.toUInt64).toInt64) &&& (4222189076152335 : Int64)) * (10 : Int64)))), .second] [(.long (((((q1 * (103 : Int64)).toUInt64 >>> ((10 : Int32) &&& 0x3f).toInt64.toUInt64).toInt64) &&& (4222189076152335 : Int64)) <<< ((8 : Int32) &&& 0x3f).toInt64))]))
  refine own_go (fun t_ k => XS.lload X0.here hx rfl (hb hby d3_26) rfl k) ?_
  show WP p e below _ (s₁.setTop (mkF m 28 #[.val (.long q1), .second, .val (.long ((((q1 * (103 : Int64)).toUInt64 >>> ((10 : Int32) &&& 0x3f).toInt64.toUInt64).toInt64) &&& (4222189076152335 : Int64))), .second, .val (.long (q1 - (((((q1 * (103 : Int64)).toUInt64 >>> ((10 : Int32) &&& 0x3f).toInt64.toUInt64).toInt64) &&& (4222189076152335 : Int64)) * (10 : Int64)))), .second] [(.long (q1 - (((((q1 * (103 : Int64)).toUInt64 >>> ((10 : Int32) &&& 0x3f).toInt64.toUInt64).toInt64) &&& (4222189076152335 : Int64)) * (10 : Int64)))), (.long (((((q1 * (103 : Int64)).toUInt64 >>> ((10 : Int32) &&& 0x3f).toInt64.toUInt64).toInt64) &&& (4222189076152335 : Int64)) <<< ((8 : Int32) &&& 0x3f).toInt64))]))
  refine own_go (fun t_ k => XS.lor X0.here hx rfl (hb hby d3_28) rfl k) ?_
  show WP p e below _ (s₁.setTop (mkF m 29 #[.val (.long q1), .second, .val (.long ((((q1 * (103 : Int64)).toUInt64 >>> ((10 : Int32) &&& 0x3f).toInt64.toUInt64).toInt64) &&& (4222189076152335 : Int64))), .second, .val (.long (q1 - (((((q1 * (103 : Int64)).toUInt64 >>> ((10 : Int32) &&& 0x3f).toInt64.toUInt64).toInt64) &&& (4222189076152335 : Int64)) * (10 : Int64)))), .second] [(.long ((((((q1 * (103 : Int64)).toUInt64 >>> ((10 : Int32) &&& 0x3f).toInt64.toUInt64).toInt64) &&& (4222189076152335 : Int64)) <<< ((8 : Int32) &&& 0x3f).toInt64) ||| (q1 - (((((q1 * (103 : Int64)).toUInt64 >>> ((10 : Int32) &&& 0x3f).toInt64.toUInt64).toInt64) &&& (4222189076152335 : Int64)) * (10 : Int64)))))]))
  refine own_go (fun t_ k => X0.ldc2Long hx hown (mvT hZ (hw _ (List.mem_of_getElem? (i := 15) rfl))) (g := (mkF m 29 #[.val (.long q1), .second, .val (.long ((((q1 * (103 : Int64)).toUInt64 >>> ((10 : Int32) &&& 0x3f).toInt64.toUInt64).toInt64) &&& (4222189076152335 : Int64))), .second, .val (.long (q1 - (((((q1 * (103 : Int64)).toUInt64 >>> ((10 : Int32) &&& 0x3f).toInt64.toUInt64).toInt64) &&& (4222189076152335 : Int64)) * (10 : Int64)))), .second] [(.long ((((((q1 * (103 : Int64)).toUInt64 >>> ((10 : Int32) &&& 0x3f).toInt64.toUInt64).toInt64) &&& (4222189076152335 : Int64)) <<< ((8 : Int32) &&& 0x3f).toInt64) ||| (q1 - (((((q1 * (103 : Int64)).toUInt64 >>> ((10 : Int32) &&& 0x3f).toInt64.toUInt64).toInt64) &&& (4222189076152335 : Int64)) * (10 : Int64)))))])) rfl (hb hby d3_29) _ k) ?_
  show WP p e below _ (s₁.setTop (mkF m 32 #[.val (.long q1), .second, .val (.long ((((q1 * (103 : Int64)).toUInt64 >>> ((10 : Int32) &&& 0x3f).toInt64.toUInt64).toInt64) &&& (4222189076152335 : Int64))), .second, .val (.long (q1 - (((((q1 * (103 : Int64)).toUInt64 >>> ((10 : Int32) &&& 0x3f).toInt64.toUInt64).toInt64) &&& (4222189076152335 : Int64)) * (10 : Int64)))), .second] [(.long (3472328296227680304 : Int64)), (.long ((((((q1 * (103 : Int64)).toUInt64 >>> ((10 : Int32) &&& 0x3f).toInt64.toUInt64).toInt64) &&& (4222189076152335 : Int64)) <<< ((8 : Int32) &&& 0x3f).toInt64) ||| (q1 - (((((q1 * (103 : Int64)).toUInt64 >>> ((10 : Int32) &&& 0x3f).toInt64.toUInt64).toInt64) &&& (4222189076152335 : Int64)) * (10 : Int64)))))]))
  refine own_go (fun t_ k => XS.ladd X0.here hx rfl (hb hby d3_32) rfl k) ?_
  show WP p e below _ (s₁.setTop (mkF m 33 #[.val (.long q1), .second, .val (.long ((((q1 * (103 : Int64)).toUInt64 >>> ((10 : Int32) &&& 0x3f).toInt64.toUInt64).toInt64) &&& (4222189076152335 : Int64))), .second, .val (.long (q1 - (((((q1 * (103 : Int64)).toUInt64 >>> ((10 : Int32) &&& 0x3f).toInt64.toUInt64).toInt64) &&& (4222189076152335 : Int64)) * (10 : Int64)))), .second] [(.long (((((((q1 * (103 : Int64)).toUInt64 >>> ((10 : Int32) &&& 0x3f).toInt64.toUInt64).toInt64) &&& (4222189076152335 : Int64)) <<< ((8 : Int32) &&& 0x3f).toInt64) ||| (q1 - (((((q1 * (103 : Int64)).toUInt64 >>> ((10 : Int32) &&& 0x3f).toInt64.toUInt64).toInt64) &&& (4222189076152335 : Int64)) * (10 : Int64)))) + (3472328296227680304 : Int64)))]))
  exact own_retJ X0 hx Bd.notSynchronized Bd.returns (hb hby d3_33) (show PQ h0 n0 (.long (f3 q1)) _ _ _ from ⟨by rw [f3], N0, e0⟩) (by decide) (by decide)
theorem or16 {l m h g : Nat} (hl : l < 65536) (hm : m < 65536) : (l + 65536 * h) ||| (m + 65536 * g) = (l ||| m) + 65536 * (h ||| g) := or_lane (k := 16) hl hm
theorem and16 {l m h g : Nat} (hl : l < 65536) (hm : m < 65536) : (l + 65536 * h) &&& (m + 65536 * g) = (l &&& m) + 65536 * (h &&& g) := and_lane (k := 16) hl hm
theorem and15 (x : Nat) : x &&& 15 = x % 16 := Nat.and_two_pow_sub_one_eq_mod x 4
theorem own_or8 {l h : Nat} (hl : l < 256) : (256 * h) ||| l = l + 256 * h := by
  rw [Nat.add_comm]; exact (Nat.two_pow_add_eq_or_of_lt (i := 8) hl h).symm
theorem own_tens (d : Nat) (h : d < 100) : d * 103 / 1024 = d / 10 := by
  have : ∀ d : Fin 100, d.val * 103 / 1024 = d.val / 10 := by decide +kernel
  exact this ⟨d, h⟩
theorem own_lb (v : Nat) (h : v < 100) : (48 + v % 10) + 256 * (48 + v / 10) < 65536 := by omega
theorem own_l16 (d x : Nat) (h : d < 100) : (d / 10 + 64 * x) % 16 = d / 10 := by omega
theorem own_four (la lb lc ld : Nat) (hb : lb < 65536) (hc : lc < 65536) (hd : ld < 65536) : ((la * 281474976710656 ||| lb * 4294967296) ||| lc * 65536) ||| ld = ld + 65536 * (lc + 65536 * (lb + 65536 * la)) := by
  have e1 : la * 281474976710656 ||| lb * 4294967296 = 4294967296 * (65536 * la + lb) := by
    rw [Nat.mul_comm la, ← Nat.two_pow_add_eq_or_of_lt (i := 48) (by simp only [Nat.reducePow]; omega) la]; simp only [Nat.reducePow]; omega
  have e2 : 4294967296 * (65536 * la + lb) ||| lc * 65536 = 65536 * (65536 * (65536 * la + lb) + lc) := by
    rw [← Nat.two_pow_add_eq_or_of_lt (i := 32) (by simp only [Nat.reducePow]; omega)]; simp only [Nat.reducePow]; omega
  have e3 : 65536 * (65536 * (65536 * la + lb) + lc) ||| ld = 65536 * (65536 * (65536 * la + lb) + lc) + ld := (Nat.two_pow_add_eq_or_of_lt (i := 16) hd _).symm
  rw [e1, e2, e3]
  omega
theorem own_i2l (x : Int32) (v : Nat) (hv : v < 2147483648) (h : x.toInt = v) : x.toInt64.toBitVec.toNat = v := by
  have a1 := nJ_toInt x.toInt64
  rw [c_i2l, h] at a1
  omega
theorem own_pv (p : Int32) : ∃ v : Nat, v < 100 ∧ (f1 p).toInt = v := by
  have a1 := c_mask p 2147483647 31 (by decide) (by decide)
  have a2 := (c_irem (p &&& 2147483647) 100 100 rfl).1
  rw [f1]
  refine ⟨((p &&& 2147483647) % 100).toInt.toNat, ?_, ?_⟩ <;> omega
theorem own_pairs (a b c d : Int32) (na nb nc nd : Nat) (ha : na < 100) (hb : nb < 100) (hc : nc < 100) (hd : nd < 100) (ea : a.toInt = na) (eb : b.toInt = nb) (ec : c.toInt = nc) (ed : d.toInt = nd) :
    ((((a.toInt64 <<< ((48 : Int32) &&& 0x3f).toInt64) ||| (b.toInt64 <<< ((32 : Int32) &&& 0x3f).toInt64)) ||| (c.toInt64 <<< ((16 : Int32) &&& 0x3f).toInt64)) ||| d.toInt64).toBitVec.toNat = nd + 65536 * (nc + 65536 * (nb + 65536 * na)) := by
  rw [nJ_or, nJ_or, nJ_or, nJ_lshl _ 48 48 (by decide), nJ_lshl _ 32 32 (by decide), nJ_lshl _ 16 16 (by decide), own_i2l a na (by omega) ea, own_i2l b nb (by omega) eb, own_i2l c nc (by omega) ec, own_i2l d nd (by omega) ed]
  rw [show na * 2 ^ 48 % 18446744073709551616 = na * 281474976710656 by simp only [Nat.reducePow]; omega, show nb * 2 ^ 32 % 18446744073709551616 = nb * 4294967296 by simp only [Nat.reducePow]; omega, show nc * 2 ^ 16 % 18446744073709551616 = nc * 65536 by simp only [Nat.reducePow]; omega]
  exact own_four na nb nc nd (by omega) (by omega) (by omega)
theorem own_lane (n s : Int32) (v k : Nat) (hv : v < 100) (hn : n.toInt = v) (hs : s.toBitVec.toNat % 64 = k) (hs8 : (s + 8).toBitVec.toNat % 64 = k + 8) (hk : k = 0 ∨ k = 16 ∨ k = 32 ∨ k = 48) :
    (f2 n s).toBitVec.toNat = ((48 + v % 10) + 256 * (48 + v / 10)) * 2 ^ k := by
  have o1 : (48 : Int32).toInt = 48 := rfl
  have a1 := (c_idiv n 10 10 rfl (by decide)).1
  have a2 := (c_irem n 10 10 rfl).1
  have a3 := c_iadd 48 (n / 10)
  have a4 := c_iadd 48 (n % 10)
  have r1 := rng32 (48 + n / 10)
  have r2 := rng32 (48 + n % 10)
  have e1 := own_i2l (48 + n / 10) (48 + v / 10) (by omega) (by omega)
  have e2 := own_i2l (48 + n % 10) (48 + v % 10) (by omega) (by omega)
  rw [f2, nJ_or, nJ_lshl _ _ (k + 8) hs8, nJ_lshl _ _ k hs, e1, e2]
  rw [show (48 + v / 10) * 2 ^ (k + 8) % 18446744073709551616 = 0 + 2 ^ k * (256 * (48 + v / 10)) by rcases hk with rfl | rfl | rfl | rfl <;> simp only [Nat.reducePow, Nat.reduceAdd] <;> omega, show (48 + v % 10) * 2 ^ k % 18446744073709551616 = 0 + 2 ^ k * (48 + v % 10) by rcases hk with rfl | rfl | rfl | rfl <;> simp only [Nat.reducePow, Nat.reduceAdd] <;> omega]
  rw [or_lane (Nat.two_pow_pos k) (Nat.two_pow_pos k), Nat.or_self, own_or8 (by omega), Nat.zero_add, Nat.mul_comm]
theorem own_f3 (q : Int64) (a b c d : Nat) (ha : a < 100) (hb : b < 100) (hc : c < 100) (hd : d < 100) (hq : q.toBitVec.toNat = d + 65536 * (c + 65536 * (b + 65536 * a))) :
    (f3 q).toBitVec.toNat = ((48 + d % 10) + 256 * (48 + d / 10)) + 65536 * (((48 + c % 10) + 256 * (48 + c / 10)) + 65536 * (((48 + b % 10) + 256 * (48 + b / 10)) + 65536 * ((48 + a % 10) + 256 * (48 + a / 10)))) := by
  have m : (q * 103).toBitVec.toNat = d * 103 + 65536 * (c * 103 + 65536 * (b * 103 + 65536 * (a * 103))) := by
    rw [nJ_mul, hq, show (103 : Int64).toBitVec.toNat = 103 from by decide]; omega
  have s := nJ_lushr (q * 103) 10 10 (by decide)
  have t : ((((q * (103 : Int64)).toUInt64 >>> ((10 : Int32) &&& 0x3f).toInt64.toUInt64).toInt64) &&& (4222189076152335 : Int64)).toBitVec.toNat = d / 10 + 65536 * (c / 10 + 65536 * (b / 10 + 65536 * (a / 10))) := by
    rw [nJ_and, s, m, show (4222189076152335 : Int64).toBitVec.toNat = 15 + 65536 * (15 + 65536 * (15 + 65536 * 15)) from by decide]
    rw [show (d * 103 + 65536 * (c * 103 + 65536 * (b * 103 + 65536 * (a * 103)))) / 2 ^ 10 = (d * 103 / 1024 + 64 * (c * 103 % 1024)) + 65536 * ((c * 103 / 1024 + 64 * (b * 103 % 1024)) + 65536 * ((b * 103 / 1024 + 64 * (a * 103 % 1024)) + 65536 * (a * 103 / 1024))) by simp only [Nat.reducePow]; omega]
    rw [and16 (by omega) (by decide), and16 (by omega) (by decide), and16 (by omega) (by decide), and15, and15, and15, and15, own_tens a ha, own_tens b hb, own_tens c hc, own_tens d hd, own_l16 d _ hd, own_l16 c _ hc, own_l16 b _ hb, Nat.mod_eq_of_lt (show a / 10 < 16 by omega)]
  unfold f3
  generalize ((((q * (103 : Int64)).toUInt64 >>> ((10 : Int32) &&& 0x3f).toInt64.toUInt64).toInt64) &&& (4222189076152335 : Int64)) = tens at *
  have o : (q - tens * 10).toBitVec.toNat = d % 10 + 65536 * (c % 10 + 65536 * (b % 10 + 65536 * (a % 10))) := by
    rw [nJ_sub, nJ_mul, t, hq, show (10 : Int64).toBitVec.toNat = 10 from by decide]; omega
  have u := nJ_lshl tens 8 8 (by decide)
  rw [t, show (d / 10 + 65536 * (c / 10 + 65536 * (b / 10 + 65536 * (a / 10)))) * 2 ^ 8 % 18446744073709551616 = 256 * (d / 10) + 65536 * (256 * (c / 10) + 65536 * (256 * (b / 10) + 65536 * (256 * (a / 10)))) by simp only [Nat.reducePow]; omega] at u
  rw [nJ_add, nJ_or, u, o, or16 (by omega) (by omega), or16 (by omega) (by omega), or16 (by omega) (by omega), own_or8 (by omega), own_or8 (by omega), own_or8 (by omega), own_or8 (by omega), show (3472328296227680304 : Int64).toBitVec.toNat = 3472328296227680304 from by decide]
  omega
theorem pd_0 : parseMethodDescriptor "(I)I" = some ⟨[.int], some .int⟩ := by decide +kernel
theorem pd_1 : parseMethodDescriptor "(II)J" = some ⟨[.int, .int], some .long⟩ := by decide +kernel
theorem pd_2 : parseMethodDescriptor "(J)J" = some ⟨[.long], some .long⟩ := by decide +kernel
theorem own_law_1 {p1 : Int32} {p2 : Int32} {p3 : Int32} {p4 : Int32} {vi2 : Int32} {vi4 : Int32} {vi6 : Int32} {vi8 : Int32} {vj9 : Int64} {vj11 : Int64} {vj13 : Int64} {vj15 : Int64} {vj17 : Int64} {vj18 : Int64} {vj20 : Int64} {z22_S0 : Int32}
    (he2 : (f1 p1) = vi2)
    (he4 : (f1 p2) = vi4)
    (he6 : (f1 p3) = vi6)
    (he8 : (f1 p4) = vi8)
    (he9 : (((((vi2.toInt64) <<< ((48 : Int32) &&& 0x3f).toInt64) ||| ((vi4.toInt64) <<< ((32 : Int32) &&& 0x3f).toInt64)) ||| ((vi6.toInt64) <<< ((16 : Int32) &&& 0x3f).toInt64)) ||| (vi8.toInt64)) = vj9)
    (he11 : (f2 vi2 (48 : Int32)) = vj11)
    (he13 : (f2 vi4 (32 : Int32)) = vj13)
    (he15 : (f2 vi6 (16 : Int32)) = vj15)
    (he17 : (f2 vi8 (0 : Int32)) = vj17)
    (he18 : (((vj11 ||| vj13) ||| vj15) ||| vj17) = vj18)
    (he20 : (f3 vj9) = vj20)
    (hz22_S0 : z22_S0 = (if vj20 = vj18 then (1 : Int32) else (0 : Int32)))  : z22_S0 = 1 := by
  obtain ⟨na, ha, ea⟩ := own_pv p1
  obtain ⟨nb, hb, eb⟩ := own_pv p2
  obtain ⟨nc, hc, ec⟩ := own_pv p3
  obtain ⟨nd, hd, ed⟩ := own_pv p4
  rw [he2] at ea
  rw [he4] at eb
  rw [he6] at ec
  rw [he8] at ed
  have q := own_pairs vi2 vi4 vi6 vi8 na nb nc nd ha hb hc hd ea eb ec ed
  rw [he9] at q
  have r := own_f3 vj9 na nb nc nd ha hb hc hd q
  rw [he20] at r
  have l1 := own_lane vi2 48 na 48 ha ea (by decide) (by decide) (by decide)
  have l2 := own_lane vi4 32 nb 32 hb eb (by decide) (by decide) (by decide)
  have l3 := own_lane vi6 16 nc 16 hc ec (by decide) (by decide) (by decide)
  have l4 := own_lane vi8 0 nd 0 hd ed (by decide) (by decide) (by decide)
  rw [he11] at l1
  rw [he13] at l2
  rw [he15] at l3
  rw [he17] at l4
  have e : vj20 = vj18 := by
    simp only [Nat.reducePow, Nat.mul_one] at l1 l2 l3 l4
    have f := own_four ((48 + na % 10) + 256 * (48 + na / 10)) ((48 + nb % 10) + 256 * (48 + nb / 10)) ((48 + nc % 10) + 256 * (48 + nc / 10)) ((48 + nd % 10) + 256 * (48 + nd / 10)) (own_lb nb hb) (own_lb nc hc) (own_lb nd hd)
    rw [nJ_inj, r, ← he18, nJ_or, nJ_or, nJ_or, l1, l2, l3, l4, f]
  rw [if_pos e] at hz22_S0
  exact hz22_S0
theorem ef_rm0 (m : MethodId) (x0 : Int32) (x1 : Int32) (x2 : Int32) (x3 : Int32) : entryFrame m #[(.int x0), (.int x1), (.int x2), (.int x3)] maxLocals = mkF m 0 #[.val (.int x0), .val (.int x1), .val (.int x2), .val (.int x3), .unset, .unset, .unset, .unset, .unset, .unset, .unset, .unset] [] := by first | (simp [entryFrame, mkF, argsToLocals, Value.category, maxLocals]; done) | rfl
set_option maxRecDepth 65536 in
set_option maxHeartbeats 40000000 in
theorem rm0 (l : Launch) (Z : State) (a0 : Array Value) (hw : ∀ d ∈ tables_1, d.before a0 Z = true) (ws : List Jvm.Cond) (p1 : Int32) (p2 : Int32) (p3 : Int32) (p4 : Int32) (h0 : Heap) (n0 : Nat) (Z0 : n0 ≤ h0.size) :
    MetFree l x (head1 (Jvm.Cond.code x code maxLocals ret :: ws) room_1) (fun a U => a = #[(.int p1), (.int p2), (.int p3), (.int p4)] ∧ Z.Warmed39 U.vm ∧ U.heap = h0) (fun _ _ _ _ _ => True) (fun _ U o U' => ∃ v L, o = .returned v ∧ (Q0 n0) v U'.heap L ∧ FrameEnd U o U' L room_1.cells room_1.slots) := by
  refine MetFree.of_bodySF (plainFor_of_name pn_0) hisR ?_
  intro p e s m args below meth c s₁ Bd hml0 hP hK
  obtain ⟨rfl, hZ, hh⟩ := hP
  have hx := Bd.exec
  have hby := Bd.bytes
  have hml : c.maxLocals = 12 := hml0
  have hown : s.vm.findClass "com/example/bittern/bittern/DigitsDigitsPinLaw" = some m.cls := findClass_of_methodNamed Bd.named
  have hnm := (name_of_methodNamed Bd.named Bd.method).1
  have X0 : Stand p l e room_1 s m #[(.int p1), (.int p2), (.int p3), (.int p4)] below meth c s₁ [] 0 0 := Stand.of_body Bd
  have e0 : s₁.heap = h0 := by rw [← hh, Bd.state]; rfl
  have N0 := Fr.nil n0
  show WP p e below (GG (Q0 n0) s room_1.cells room_1.slots) (s₁.setTop (entryFrame m #[(.int p1), (.int p2), (.int p3), (.int p4)] maxLocals))
  rw [ef_rm0 m p1 p2 p3 p4]
  show WP p e below _ (s₁.setTop (mkF m 0 #[.val (.int p1), .val (.int p2), .val (.int p3), .val (.int p4), .unset, .unset, .unset, .unset, .unset, .unset, .unset, .unset] []))
  refine own_go (fun t_ k => XS.iloadN X0.here hx rfl (hb hby at_0) rfl k) ?_
  show WP p e below _ (s₁.setTop (mkF m 1 #[.val (.int p1), .val (.int p2), .val (.int p3), .val (.int p4), .unset, .unset, .unset, .unset, .unset, .unset, .unset, .unset] [(.int p1)]))
  obtain ⟨_, _, ⟨T1, L1, k1, n1⟩, -, X1, ⟨Lc1, hQ1, l1, y1, z1⟩, st1⟩ := Jvm.LawKit.callS X0 hx (y := (⟨"com/example/bittern/bittern/DigitsDigitsPinLaw", "pairValue", "(I)I"⟩ : MethodName)) hown (mvT hZ (hw _ (List.mem_of_getElem? (i := 0) rfl))) (mvT hZ (hw _ (List.mem_of_getElem? (i := 1) rfl))) (mvT hZ (hw _ (List.mem_of_getElem? (i := 2) rfl))) (mvT hZ (hw _ (List.mem_of_getElem? (i := 3) rfl))) (by decide) (backOf (W := 0) (rm1 l Z a0 hw [] p1 h0 n0) hZ (hw _ (List.mem_of_getElem? (i := 3) rfl)) (hw _ (List.mem_of_getElem? (i := 2) rfl)) (by decide) (by decide)) (g := (mkF m 1 #[.val (.int p1), .val (.int p2), .val (.int p3), .val (.int p4), .unset, .unset, .unset, .unset, .unset, .unset, .unset, .unset] [(.int p1)])) rfl (by rw [hml]; rfl) (argsL := [(.int p1)]) (rest := []) (lenOf pd_0 rfl) rfl (by show 2 * 0 + _ ≤ _; exact Nat.le_of_eq rfl) (hb hby at_1) (fun _ _ => ⟨rfl, e0, (by decide : 0 + 0 ≤ _), (by decide : 0 + 0 ≤ _)⟩)
  dsimp only [Pt.U, Pt.locs, Pt.cells, Pt.slots] at X1 l1 y1 z1 st1 hQ1
  subst l1 y1 z1
  obtain ⟨rfl, N1q, e1⟩ := hQ1
  have N1 := Fr.app N0 N1q
  replace X1 : Stand p l e room_1 s m _ below meth c T1 _ 0 0 := X1
  refine own_go st1 ?_
  show WP p e below _ (T1.setTop (mkF m 4 #[.val (.int p1), .val (.int p2), .val (.int p3), .val (.int p4), .unset, .unset, .unset, .unset, .unset, .unset, .unset, .unset] [(.int (f1 p1))]))
  generalize he2 : (f1 p1) = vi2
  show WP p e below _ (T1.setTop (mkF m 4 #[.val (.int p1), .val (.int p2), .val (.int p3), .val (.int p4), .unset, .unset, .unset, .unset, .unset, .unset, .unset, .unset] [(.int vi2)]))
  refine own_go (fun t_ k => XS.istore X1.here hx rfl (hb hby at_4) rfl (l' := #[.val (.int p1), .val (.int p2), .val (.int p3), .val (.int p4), .val (.int vi2), .unset, .unset, .unset, .unset, .unset, .unset, .unset]) rfl k) ?_
  show WP p e below _ (T1.setTop (mkF m 6 #[.val (.int p1), .val (.int p2), .val (.int p3), .val (.int p4), .val (.int vi2), .unset, .unset, .unset, .unset, .unset, .unset, .unset] []))
  refine own_go (fun t_ k => XS.iloadN X1.here hx rfl (hb hby at_6) rfl k) ?_
  show WP p e below _ (T1.setTop (mkF m 7 #[.val (.int p1), .val (.int p2), .val (.int p3), .val (.int p4), .val (.int vi2), .unset, .unset, .unset, .unset, .unset, .unset, .unset] [(.int p2)]))
  obtain ⟨_, _, ⟨T3, L3, k3, n3⟩, -, X3, ⟨Lc3, hQ3, l3, y3, z3⟩, st3⟩ := Jvm.LawKit.callS X1 hx (y := (⟨"com/example/bittern/bittern/DigitsDigitsPinLaw", "pairValue", "(I)I"⟩ : MethodName)) hown (mvT hZ (hw _ (List.mem_of_getElem? (i := 0) rfl))) (mvT hZ (hw _ (List.mem_of_getElem? (i := 1) rfl))) (mvT hZ (hw _ (List.mem_of_getElem? (i := 2) rfl))) (mvT hZ (hw _ (List.mem_of_getElem? (i := 3) rfl))) (by decide) (backOf (W := 0) (rm1 l Z a0 hw [] p2 h0 n0) hZ (hw _ (List.mem_of_getElem? (i := 3) rfl)) (hw _ (List.mem_of_getElem? (i := 2) rfl)) (by decide) (by decide)) (g := (mkF m 7 #[.val (.int p1), .val (.int p2), .val (.int p3), .val (.int p4), .val (.int vi2), .unset, .unset, .unset, .unset, .unset, .unset, .unset] [(.int p2)])) rfl (by rw [hml]; rfl) (argsL := [(.int p2)]) (rest := []) (lenOf pd_0 rfl) rfl (by show 2 * 0 + _ ≤ _; exact Nat.le_of_eq rfl) (hb hby at_7) (fun _ _ => ⟨rfl, e1, (by decide : 0 + 0 ≤ _), (by decide : 0 + 0 ≤ _)⟩)
  dsimp only [Pt.U, Pt.locs, Pt.cells, Pt.slots] at X3 l3 y3 z3 st3 hQ3
  subst l3 y3 z3
  obtain ⟨rfl, N3q, e3⟩ := hQ3
  have N3 := Fr.app N1 N3q
  replace X3 : Stand p l e room_1 s m _ below meth c T3 _ 0 0 := X3
  refine own_go st3 ?_
  show WP p e below _ (T3.setTop (mkF m 10 #[.val (.int p1), .val (.int p2), .val (.int p3), .val (.int p4), .val (.int vi2), .unset, .unset, .unset, .unset, .unset, .unset, .unset] [(.int (f1 p2))]))
  generalize he4 : (f1 p2) = vi4
  show WP p e below _ (T3.setTop (mkF m 10 #[.val (.int p1), .val (.int p2), .val (.int p3), .val (.int p4), .val (.int vi2), .unset, .unset, .unset, .unset, .unset, .unset, .unset] [(.int vi4)]))
  refine own_go (fun t_ k => XS.istore X3.here hx rfl (hb hby at_10) rfl (l' := #[.val (.int p1), .val (.int p2), .val (.int p3), .val (.int p4), .val (.int vi2), .val (.int vi4), .unset, .unset, .unset, .unset, .unset, .unset]) rfl k) ?_
  show WP p e below _ (T3.setTop (mkF m 12 #[.val (.int p1), .val (.int p2), .val (.int p3), .val (.int p4), .val (.int vi2), .val (.int vi4), .unset, .unset, .unset, .unset, .unset, .unset] []))
  refine own_go (fun t_ k => XS.iloadN X3.here hx rfl (hb hby at_12) rfl k) ?_
  show WP p e below _ (T3.setTop (mkF m 13 #[.val (.int p1), .val (.int p2), .val (.int p3), .val (.int p4), .val (.int vi2), .val (.int vi4), .unset, .unset, .unset, .unset, .unset, .unset] [(.int p3)]))
  obtain ⟨_, _, ⟨T5, L5, k5, n5⟩, -, X5, ⟨Lc5, hQ5, l5, y5, z5⟩, st5⟩ := Jvm.LawKit.callS X3 hx (y := (⟨"com/example/bittern/bittern/DigitsDigitsPinLaw", "pairValue", "(I)I"⟩ : MethodName)) hown (mvT hZ (hw _ (List.mem_of_getElem? (i := 0) rfl))) (mvT hZ (hw _ (List.mem_of_getElem? (i := 1) rfl))) (mvT hZ (hw _ (List.mem_of_getElem? (i := 2) rfl))) (mvT hZ (hw _ (List.mem_of_getElem? (i := 3) rfl))) (by decide) (backOf (W := 0) (rm1 l Z a0 hw [] p3 h0 n0) hZ (hw _ (List.mem_of_getElem? (i := 3) rfl)) (hw _ (List.mem_of_getElem? (i := 2) rfl)) (by decide) (by decide)) (g := (mkF m 13 #[.val (.int p1), .val (.int p2), .val (.int p3), .val (.int p4), .val (.int vi2), .val (.int vi4), .unset, .unset, .unset, .unset, .unset, .unset] [(.int p3)])) rfl (by rw [hml]; rfl) (argsL := [(.int p3)]) (rest := []) (lenOf pd_0 rfl) rfl (by show 2 * 0 + _ ≤ _; exact Nat.le_of_eq rfl) (hb hby at_13) (fun _ _ => ⟨rfl, e3, (by decide : 0 + 0 ≤ _), (by decide : 0 + 0 ≤ _)⟩)
  dsimp only [Pt.U, Pt.locs, Pt.cells, Pt.slots] at X5 l5 y5 z5 st5 hQ5
  subst l5 y5 z5
  obtain ⟨rfl, N5q, e5⟩ := hQ5
  have N5 := Fr.app N3 N5q
  replace X5 : Stand p l e room_1 s m _ below meth c T5 _ 0 0 := X5
  refine own_go st5 ?_
  show WP p e below _ (T5.setTop (mkF m 16 #[.val (.int p1), .val (.int p2), .val (.int p3), .val (.int p4), .val (.int vi2), .val (.int vi4), .unset, .unset, .unset, .unset, .unset, .unset] [(.int (f1 p3))]))
  generalize he6 : (f1 p3) = vi6
  show WP p e below _ (T5.setTop (mkF m 16 #[.val (.int p1), .val (.int p2), .val (.int p3), .val (.int p4), .val (.int vi2), .val (.int vi4), .unset, .unset, .unset, .unset, .unset, .unset] [(.int vi6)]))
  refine own_go (fun t_ k => XS.istore X5.here hx rfl (hb hby at_16) rfl (l' := #[.val (.int p1), .val (.int p2), .val (.int p3), .val (.int p4), .val (.int vi2), .val (.int vi4), .val (.int vi6), .unset, .unset, .unset, .unset, .unset]) rfl k) ?_
  show WP p e below _ (T5.setTop (mkF m 18 #[.val (.int p1), .val (.int p2), .val (.int p3), .val (.int p4), .val (.int vi2), .val (.int vi4), .val (.int vi6), .unset, .unset, .unset, .unset, .unset] []))
  refine own_go (fun t_ k => XS.iloadN X5.here hx rfl (hb hby at_18) rfl k) ?_
  show WP p e below _ (T5.setTop (mkF m 19 #[.val (.int p1), .val (.int p2), .val (.int p3), .val (.int p4), .val (.int vi2), .val (.int vi4), .val (.int vi6), .unset, .unset, .unset, .unset, .unset] [(.int p4)]))
  obtain ⟨_, _, ⟨T7, L7, k7, n7⟩, -, X7, ⟨Lc7, hQ7, l7, y7, z7⟩, st7⟩ := Jvm.LawKit.callS X5 hx (y := (⟨"com/example/bittern/bittern/DigitsDigitsPinLaw", "pairValue", "(I)I"⟩ : MethodName)) hown (mvT hZ (hw _ (List.mem_of_getElem? (i := 0) rfl))) (mvT hZ (hw _ (List.mem_of_getElem? (i := 1) rfl))) (mvT hZ (hw _ (List.mem_of_getElem? (i := 2) rfl))) (mvT hZ (hw _ (List.mem_of_getElem? (i := 3) rfl))) (by decide) (backOf (W := 0) (rm1 l Z a0 hw [] p4 h0 n0) hZ (hw _ (List.mem_of_getElem? (i := 3) rfl)) (hw _ (List.mem_of_getElem? (i := 2) rfl)) (by decide) (by decide)) (g := (mkF m 19 #[.val (.int p1), .val (.int p2), .val (.int p3), .val (.int p4), .val (.int vi2), .val (.int vi4), .val (.int vi6), .unset, .unset, .unset, .unset, .unset] [(.int p4)])) rfl (by rw [hml]; rfl) (argsL := [(.int p4)]) (rest := []) (lenOf pd_0 rfl) rfl (by show 2 * 0 + _ ≤ _; exact Nat.le_of_eq rfl) (hb hby at_19) (fun _ _ => ⟨rfl, e5, (by decide : 0 + 0 ≤ _), (by decide : 0 + 0 ≤ _)⟩)
  dsimp only [Pt.U, Pt.locs, Pt.cells, Pt.slots] at X7 l7 y7 z7 st7 hQ7
  subst l7 y7 z7
  obtain ⟨rfl, N7q, e7⟩ := hQ7
  have N7 := Fr.app N5 N7q
  replace X7 : Stand p l e room_1 s m _ below meth c T7 _ 0 0 := X7
  refine own_go st7 ?_
  show WP p e below _ (T7.setTop (mkF m 22 #[.val (.int p1), .val (.int p2), .val (.int p3), .val (.int p4), .val (.int vi2), .val (.int vi4), .val (.int vi6), .unset, .unset, .unset, .unset, .unset] [(.int (f1 p4))]))
  generalize he8 : (f1 p4) = vi8
  show WP p e below _ (T7.setTop (mkF m 22 #[.val (.int p1), .val (.int p2), .val (.int p3), .val (.int p4), .val (.int vi2), .val (.int vi4), .val (.int vi6), .unset, .unset, .unset, .unset, .unset] [(.int vi8)]))
  refine own_go (fun t_ k => XS.istore X7.here hx rfl (hb hby at_22) rfl (l' := #[.val (.int p1), .val (.int p2), .val (.int p3), .val (.int p4), .val (.int vi2), .val (.int vi4), .val (.int vi6), .val (.int vi8), .unset, .unset, .unset, .unset]) rfl k) ?_
  show WP p e below _ (T7.setTop (mkF m 24 #[.val (.int p1), .val (.int p2), .val (.int p3), .val (.int p4), .val (.int vi2), .val (.int vi4), .val (.int vi6), .val (.int vi8), .unset, .unset, .unset, .unset] []))
  refine own_go (fun t_ k => XS.iload X7.here hx rfl (hb hby at_24) rfl k) ?_
  show WP p e below _ (T7.setTop (mkF m 26 #[.val (.int p1), .val (.int p2), .val (.int p3), .val (.int p4), .val (.int vi2), .val (.int vi4), .val (.int vi6), .val (.int vi8), .unset, .unset, .unset, .unset] [(.int vi2)]))
  refine own_go (fun t_ k => XS.i2l X7.here hx rfl (hb hby at_26) rfl k) ?_
  show WP p e below _ (T7.setTop (mkF m 27 #[.val (.int p1), .val (.int p2), .val (.int p3), .val (.int p4), .val (.int vi2), .val (.int vi4), .val (.int vi6), .val (.int vi8), .unset, .unset, .unset, .unset] [(.long (vi2.toInt64))]))
  refine own_go (fun t_ k => XS.bipush X7.here hx rfl (hb hby at_27) k) ?_
  show WP p e below _ (T7.setTop (mkF m 29 #[.val (.int p1), .val (.int p2), .val (.int p3), .val (.int p4), .val (.int vi2), .val (.int vi4), .val (.int vi6), .val (.int vi8), .unset, .unset, .unset, .unset] [(.int (48 : Int32)), (.long (vi2.toInt64))]))
  refine own_go (fun t_ k => XS.lshl X7.here hx rfl (hb hby at_29) rfl k) ?_
  show WP p e below _ (T7.setTop (mkF m 30 #[.val (.int p1), .val (.int p2), .val (.int p3), .val (.int p4), .val (.int vi2), .val (.int vi4), .val (.int vi6), .val (.int vi8), .unset, .unset, .unset, .unset] [(.long ((vi2.toInt64) <<< ((48 : Int32) &&& 0x3f).toInt64))]))
  refine own_go (fun t_ k => XS.iload X7.here hx rfl (hb hby at_30) rfl k) ?_
  show WP p e below _ (T7.setTop (mkF m 32 #[.val (.int p1), .val (.int p2), .val (.int p3), .val (.int p4), .val (.int vi2), .val (.int vi4), .val (.int vi6), .val (.int vi8), .unset, .unset, .unset, .unset] [(.int vi4), (.long ((vi2.toInt64) <<< ((48 : Int32) &&& 0x3f).toInt64))]))
  refine own_go (fun t_ k => XS.i2l X7.here hx rfl (hb hby at_32) rfl k) ?_
  show WP p e below _ (T7.setTop (mkF m 33 #[.val (.int p1), .val (.int p2), .val (.int p3), .val (.int p4), .val (.int vi2), .val (.int vi4), .val (.int vi6), .val (.int vi8), .unset, .unset, .unset, .unset] [(.long (vi4.toInt64)), (.long ((vi2.toInt64) <<< ((48 : Int32) &&& 0x3f).toInt64))]))
  refine own_go (fun t_ k => XS.bipush X7.here hx rfl (hb hby at_33) k) ?_
  show WP p e below _ (T7.setTop (mkF m 35 #[.val (.int p1), .val (.int p2), .val (.int p3), .val (.int p4), .val (.int vi2), .val (.int vi4), .val (.int vi6), .val (.int vi8), .unset, .unset, .unset, .unset] [(.int (32 : Int32)), (.long (vi4.toInt64)), (.long ((vi2.toInt64) <<< ((48 : Int32) &&& 0x3f).toInt64))]))
  refine own_go (fun t_ k => XS.lshl X7.here hx rfl (hb hby at_35) rfl k) ?_
  show WP p e below _ (T7.setTop (mkF m 36 #[.val (.int p1), .val (.int p2), .val (.int p3), .val (.int p4), .val (.int vi2), .val (.int vi4), .val (.int vi6), .val (.int vi8), .unset, .unset, .unset, .unset] [(.long ((vi4.toInt64) <<< ((32 : Int32) &&& 0x3f).toInt64)), (.long ((vi2.toInt64) <<< ((48 : Int32) &&& 0x3f).toInt64))]))
  refine own_go (fun t_ k => XS.lor X7.here hx rfl (hb hby at_36) rfl k) ?_
  show WP p e below _ (T7.setTop (mkF m 37 #[.val (.int p1), .val (.int p2), .val (.int p3), .val (.int p4), .val (.int vi2), .val (.int vi4), .val (.int vi6), .val (.int vi8), .unset, .unset, .unset, .unset] [(.long (((vi2.toInt64) <<< ((48 : Int32) &&& 0x3f).toInt64) ||| ((vi4.toInt64) <<< ((32 : Int32) &&& 0x3f).toInt64)))]))
  refine own_go (fun t_ k => XS.iload X7.here hx rfl (hb hby at_37) rfl k) ?_
  show WP p e below _ (T7.setTop (mkF m 39 #[.val (.int p1), .val (.int p2), .val (.int p3), .val (.int p4), .val (.int vi2), .val (.int vi4), .val (.int vi6), .val (.int vi8), .unset, .unset, .unset, .unset] [(.int vi6), (.long (((vi2.toInt64) <<< ((48 : Int32) &&& 0x3f).toInt64) ||| ((vi4.toInt64) <<< ((32 : Int32) &&& 0x3f).toInt64)))]))
  refine own_go (fun t_ k => XS.i2l X7.here hx rfl (hb hby at_39) rfl k) ?_
  show WP p e below _ (T7.setTop (mkF m 40 #[.val (.int p1), .val (.int p2), .val (.int p3), .val (.int p4), .val (.int vi2), .val (.int vi4), .val (.int vi6), .val (.int vi8), .unset, .unset, .unset, .unset] [(.long (vi6.toInt64)), (.long (((vi2.toInt64) <<< ((48 : Int32) &&& 0x3f).toInt64) ||| ((vi4.toInt64) <<< ((32 : Int32) &&& 0x3f).toInt64)))]))
  refine own_go (fun t_ k => XS.bipush X7.here hx rfl (hb hby at_40) k) ?_
  show WP p e below _ (T7.setTop (mkF m 42 #[.val (.int p1), .val (.int p2), .val (.int p3), .val (.int p4), .val (.int vi2), .val (.int vi4), .val (.int vi6), .val (.int vi8), .unset, .unset, .unset, .unset] [(.int (16 : Int32)), (.long (vi6.toInt64)), (.long (((vi2.toInt64) <<< ((48 : Int32) &&& 0x3f).toInt64) ||| ((vi4.toInt64) <<< ((32 : Int32) &&& 0x3f).toInt64)))]))
  refine own_go (fun t_ k => XS.lshl X7.here hx rfl (hb hby at_42) rfl k) ?_
  show WP p e below _ (T7.setTop (mkF m 43 #[.val (.int p1), .val (.int p2), .val (.int p3), .val (.int p4), .val (.int vi2), .val (.int vi4), .val (.int vi6), .val (.int vi8), .unset, .unset, .unset, .unset] [(.long ((vi6.toInt64) <<< ((16 : Int32) &&& 0x3f).toInt64)), (.long (((vi2.toInt64) <<< ((48 : Int32) &&& 0x3f).toInt64) ||| ((vi4.toInt64) <<< ((32 : Int32) &&& 0x3f).toInt64)))]))
  refine own_go (fun t_ k => XS.lor X7.here hx rfl (hb hby at_43) rfl k) ?_
  show WP p e below _ (T7.setTop (mkF m 44 #[.val (.int p1), .val (.int p2), .val (.int p3), .val (.int p4), .val (.int vi2), .val (.int vi4), .val (.int vi6), .val (.int vi8), .unset, .unset, .unset, .unset] [(.long ((((vi2.toInt64) <<< ((48 : Int32) &&& 0x3f).toInt64) ||| ((vi4.toInt64) <<< ((32 : Int32) &&& 0x3f).toInt64)) ||| ((vi6.toInt64) <<< ((16 : Int32) &&& 0x3f).toInt64)))]))
  refine own_go (fun t_ k => XS.iload X7.here hx rfl (hb hby at_44) rfl k) ?_
  show WP p e below _ (T7.setTop (mkF m 46 #[.val (.int p1), .val (.int p2), .val (.int p3), .val (.int p4), .val (.int vi2), .val (.int vi4), .val (.int vi6), .val (.int vi8), .unset, .unset, .unset, .unset] [(.int vi8), (.long ((((vi2.toInt64) <<< ((48 : Int32) &&& 0x3f).toInt64) ||| ((vi4.toInt64) <<< ((32 : Int32) &&& 0x3f).toInt64)) ||| ((vi6.toInt64) <<< ((16 : Int32) &&& 0x3f).toInt64)))]))
  refine own_go (fun t_ k => XS.i2l X7.here hx rfl (hb hby at_46) rfl k) ?_
  show WP p e below _ (T7.setTop (mkF m 47 #[.val (.int p1), .val (.int p2), .val (.int p3), .val (.int p4), .val (.int vi2), .val (.int vi4), .val (.int vi6), .val (.int vi8), .unset, .unset, .unset, .unset] [(.long (vi8.toInt64)), (.long ((((vi2.toInt64) <<< ((48 : Int32) &&& 0x3f).toInt64) ||| ((vi4.toInt64) <<< ((32 : Int32) &&& 0x3f).toInt64)) ||| ((vi6.toInt64) <<< ((16 : Int32) &&& 0x3f).toInt64)))]))
  refine own_go (fun t_ k => XS.lor X7.here hx rfl (hb hby at_47) rfl k) ?_
  show WP p e below _ (T7.setTop (mkF m 48 #[.val (.int p1), .val (.int p2), .val (.int p3), .val (.int p4), .val (.int vi2), .val (.int vi4), .val (.int vi6), .val (.int vi8), .unset, .unset, .unset, .unset] [(.long (((((vi2.toInt64) <<< ((48 : Int32) &&& 0x3f).toInt64) ||| ((vi4.toInt64) <<< ((32 : Int32) &&& 0x3f).toInt64)) ||| ((vi6.toInt64) <<< ((16 : Int32) &&& 0x3f).toInt64)) ||| (vi8.toInt64)))]))
  refine own_go (fun t_ k => XS.lstore X7.here hx rfl (hb hby at_48) rfl (l' := #[.val (.int p1), .val (.int p2), .val (.int p3), .val (.int p4), .val (.int vi2), .val (.int vi4), .val (.int vi6), .val (.int vi8), .val (.long (((((vi2.toInt64) <<< ((48 : Int32) &&& 0x3f).toInt64) ||| ((vi4.toInt64) <<< ((32 : Int32) &&& 0x3f).toInt64)) ||| ((vi6.toInt64) <<< ((16 : Int32) &&& 0x3f).toInt64)) ||| (vi8.toInt64))), .second, .unset, .unset]) rfl k) ?_
  show WP p e below _ (T7.setTop (mkF m 50 #[.val (.int p1), .val (.int p2), .val (.int p3), .val (.int p4), .val (.int vi2), .val (.int vi4), .val (.int vi6), .val (.int vi8), .val (.long (((((vi2.toInt64) <<< ((48 : Int32) &&& 0x3f).toInt64) ||| ((vi4.toInt64) <<< ((32 : Int32) &&& 0x3f).toInt64)) ||| ((vi6.toInt64) <<< ((16 : Int32) &&& 0x3f).toInt64)) ||| (vi8.toInt64))), .second, .unset, .unset] []))
  generalize he9 : (((((vi2.toInt64) <<< ((48 : Int32) &&& 0x3f).toInt64) ||| ((vi4.toInt64) <<< ((32 : Int32) &&& 0x3f).toInt64)) ||| ((vi6.toInt64) <<< ((16 : Int32) &&& 0x3f).toInt64)) ||| (vi8.toInt64)) = vj9
  show WP p e below _ (T7.setTop (mkF m 50 #[.val (.int p1), .val (.int p2), .val (.int p3), .val (.int p4), .val (.int vi2), .val (.int vi4), .val (.int vi6), .val (.int vi8), .val (.long vj9), .second, .unset, .unset] []))
  refine own_go (fun t_ k => XS.iload X7.here hx rfl (hb hby at_50) rfl k) ?_
  show WP p e below _ (T7.setTop (mkF m 52 #[.val (.int p1), .val (.int p2), .val (.int p3), .val (.int p4), .val (.int vi2), .val (.int vi4), .val (.int vi6), .val (.int vi8), .val (.long vj9), .second, .unset, .unset] [(.int vi2)]))
  refine own_go (fun t_ k => XS.bipush X7.here hx rfl (hb hby at_52) k) ?_
  show WP p e below _ (T7.setTop (mkF m 54 #[.val (.int p1), .val (.int p2), .val (.int p3), .val (.int p4), .val (.int vi2), .val (.int vi4), .val (.int vi6), .val (.int vi8), .val (.long vj9), .second, .unset, .unset] [(.int (48 : Int32)), (.int vi2)]))
  obtain ⟨_, _, ⟨T10, L10, k10, n10⟩, -, X10, ⟨Lc10, hQ10, l10, y10, z10⟩, st10⟩ := Jvm.LawKit.callS X7 hx (y := (⟨"com/example/bittern/bittern/DigitsDigitsPinLaw", "lane", "(II)J"⟩ : MethodName)) hown (mvT hZ (hw _ (List.mem_of_getElem? (i := 5) rfl))) (mvT hZ (hw _ (List.mem_of_getElem? (i := 6) rfl))) (mvT hZ (hw _ (List.mem_of_getElem? (i := 2) rfl))) (mvT hZ (hw _ (List.mem_of_getElem? (i := 7) rfl))) (by decide) (backOf (W := 0) (rm2 l Z a0 hw [] vi2 (48 : Int32) h0 n0) hZ (hw _ (List.mem_of_getElem? (i := 7) rfl)) (hw _ (List.mem_of_getElem? (i := 2) rfl)) (by decide) (by decide)) (g := (mkF m 54 #[.val (.int p1), .val (.int p2), .val (.int p3), .val (.int p4), .val (.int vi2), .val (.int vi4), .val (.int vi6), .val (.int vi8), .val (.long vj9), .second, .unset, .unset] [(.int (48 : Int32)), (.int vi2)])) rfl (by rw [hml]; rfl) (argsL := [(.int vi2), (.int (48 : Int32))]) (rest := []) (lenOf pd_1 rfl) rfl (by show 2 * 0 + _ ≤ _; exact Nat.le_of_eq rfl) (hb hby at_54) (fun _ _ => ⟨rfl, e7, (by decide : 0 + 0 ≤ _), (by decide : 0 + 0 ≤ _)⟩)
  dsimp only [Pt.U, Pt.locs, Pt.cells, Pt.slots] at X10 l10 y10 z10 st10 hQ10
  subst l10 y10 z10
  obtain ⟨rfl, N10q, e10⟩ := hQ10
  have N10 := Fr.app N7 N10q
  replace X10 : Stand p l e room_1 s m _ below meth c T10 _ 0 0 := X10
  refine own_go st10 ?_
  show WP p e below _ (T10.setTop (mkF m 57 #[.val (.int p1), .val (.int p2), .val (.int p3), .val (.int p4), .val (.int vi2), .val (.int vi4), .val (.int vi6), .val (.int vi8), .val (.long vj9), .second, .unset, .unset] [(.long (f2 vi2 (48 : Int32)))]))
  generalize he11 : (f2 vi2 (48 : Int32)) = vj11
  show WP p e below _ (T10.setTop (mkF m 57 #[.val (.int p1), .val (.int p2), .val (.int p3), .val (.int p4), .val (.int vi2), .val (.int vi4), .val (.int vi6), .val (.int vi8), .val (.long vj9), .second, .unset, .unset] [(.long vj11)]))
  refine own_go (fun t_ k => XS.iload X10.here hx rfl (hb hby at_57) rfl k) ?_
  show WP p e below _ (T10.setTop (mkF m 59 #[.val (.int p1), .val (.int p2), .val (.int p3), .val (.int p4), .val (.int vi2), .val (.int vi4), .val (.int vi6), .val (.int vi8), .val (.long vj9), .second, .unset, .unset] [(.int vi4), (.long vj11)]))
  refine own_go (fun t_ k => XS.bipush X10.here hx rfl (hb hby at_59) k) ?_
  show WP p e below _ (T10.setTop (mkF m 61 #[.val (.int p1), .val (.int p2), .val (.int p3), .val (.int p4), .val (.int vi2), .val (.int vi4), .val (.int vi6), .val (.int vi8), .val (.long vj9), .second, .unset, .unset] [(.int (32 : Int32)), (.int vi4), (.long vj11)]))
  obtain ⟨_, _, ⟨T12, L12, k12, n12⟩, -, X12, ⟨Lc12, hQ12, l12, y12, z12⟩, st12⟩ := Jvm.LawKit.callS X10 hx (y := (⟨"com/example/bittern/bittern/DigitsDigitsPinLaw", "lane", "(II)J"⟩ : MethodName)) hown (mvT hZ (hw _ (List.mem_of_getElem? (i := 5) rfl))) (mvT hZ (hw _ (List.mem_of_getElem? (i := 6) rfl))) (mvT hZ (hw _ (List.mem_of_getElem? (i := 2) rfl))) (mvT hZ (hw _ (List.mem_of_getElem? (i := 7) rfl))) (by decide) (backOf (W := 2) (rm2 l Z a0 hw [] vi4 (32 : Int32) h0 n0) hZ (hw _ (List.mem_of_getElem? (i := 7) rfl)) (hw _ (List.mem_of_getElem? (i := 2) rfl)) (by decide) (by decide)) (g := (mkF m 61 #[.val (.int p1), .val (.int p2), .val (.int p3), .val (.int p4), .val (.int vi2), .val (.int vi4), .val (.int vi6), .val (.int vi8), .val (.long vj9), .second, .unset, .unset] [(.int (32 : Int32)), (.int vi4), (.long vj11)])) rfl (by rw [hml]; rfl) (argsL := [(.int vi4), (.int (32 : Int32))]) (rest := [(.long vj11)]) (lenOf pd_1 rfl) rfl (by show 2 * 0 + _ ≤ _; exact Nat.le_of_eq rfl) (hb hby at_61) (fun _ _ => ⟨rfl, e10, (by decide : 0 + 0 ≤ _), (by decide : 0 + 0 ≤ _)⟩)
  dsimp only [Pt.U, Pt.locs, Pt.cells, Pt.slots] at X12 l12 y12 z12 st12 hQ12
  subst l12 y12 z12
  obtain ⟨rfl, N12q, e12⟩ := hQ12
  have N12 := Fr.app N10 N12q
  replace X12 : Stand p l e room_1 s m _ below meth c T12 _ 0 0 := X12
  refine own_go st12 ?_
  show WP p e below _ (T12.setTop (mkF m 64 #[.val (.int p1), .val (.int p2), .val (.int p3), .val (.int p4), .val (.int vi2), .val (.int vi4), .val (.int vi6), .val (.int vi8), .val (.long vj9), .second, .unset, .unset] [(.long (f2 vi4 (32 : Int32))), (.long vj11)]))
  generalize he13 : (f2 vi4 (32 : Int32)) = vj13
  show WP p e below _ (T12.setTop (mkF m 64 #[.val (.int p1), .val (.int p2), .val (.int p3), .val (.int p4), .val (.int vi2), .val (.int vi4), .val (.int vi6), .val (.int vi8), .val (.long vj9), .second, .unset, .unset] [(.long vj13), (.long vj11)]))
  refine own_go (fun t_ k => XS.lor X12.here hx rfl (hb hby at_64) rfl k) ?_
  show WP p e below _ (T12.setTop (mkF m 65 #[.val (.int p1), .val (.int p2), .val (.int p3), .val (.int p4), .val (.int vi2), .val (.int vi4), .val (.int vi6), .val (.int vi8), .val (.long vj9), .second, .unset, .unset] [(.long (vj11 ||| vj13))]))
  refine own_go (fun t_ k => XS.iload X12.here hx rfl (hb hby at_65) rfl k) ?_
  show WP p e below _ (T12.setTop (mkF m 67 #[.val (.int p1), .val (.int p2), .val (.int p3), .val (.int p4), .val (.int vi2), .val (.int vi4), .val (.int vi6), .val (.int vi8), .val (.long vj9), .second, .unset, .unset] [(.int vi6), (.long (vj11 ||| vj13))]))
  refine own_go (fun t_ k => XS.bipush X12.here hx rfl (hb hby at_67) k) ?_
  show WP p e below _ (T12.setTop (mkF m 69 #[.val (.int p1), .val (.int p2), .val (.int p3), .val (.int p4), .val (.int vi2), .val (.int vi4), .val (.int vi6), .val (.int vi8), .val (.long vj9), .second, .unset, .unset] [(.int (16 : Int32)), (.int vi6), (.long (vj11 ||| vj13))]))
  obtain ⟨_, _, ⟨T14, L14, k14, n14⟩, -, X14, ⟨Lc14, hQ14, l14, y14, z14⟩, st14⟩ := Jvm.LawKit.callS X12 hx (y := (⟨"com/example/bittern/bittern/DigitsDigitsPinLaw", "lane", "(II)J"⟩ : MethodName)) hown (mvT hZ (hw _ (List.mem_of_getElem? (i := 5) rfl))) (mvT hZ (hw _ (List.mem_of_getElem? (i := 6) rfl))) (mvT hZ (hw _ (List.mem_of_getElem? (i := 2) rfl))) (mvT hZ (hw _ (List.mem_of_getElem? (i := 7) rfl))) (by decide) (backOf (W := 2) (rm2 l Z a0 hw [] vi6 (16 : Int32) h0 n0) hZ (hw _ (List.mem_of_getElem? (i := 7) rfl)) (hw _ (List.mem_of_getElem? (i := 2) rfl)) (by decide) (by decide)) (g := (mkF m 69 #[.val (.int p1), .val (.int p2), .val (.int p3), .val (.int p4), .val (.int vi2), .val (.int vi4), .val (.int vi6), .val (.int vi8), .val (.long vj9), .second, .unset, .unset] [(.int (16 : Int32)), (.int vi6), (.long (vj11 ||| vj13))])) rfl (by rw [hml]; rfl) (argsL := [(.int vi6), (.int (16 : Int32))]) (rest := [(.long (vj11 ||| vj13))]) (lenOf pd_1 rfl) rfl (by show 2 * 0 + _ ≤ _; exact Nat.le_of_eq rfl) (hb hby at_69) (fun _ _ => ⟨rfl, e12, (by decide : 0 + 0 ≤ _), (by decide : 0 + 0 ≤ _)⟩)
  dsimp only [Pt.U, Pt.locs, Pt.cells, Pt.slots] at X14 l14 y14 z14 st14 hQ14
  subst l14 y14 z14
  obtain ⟨rfl, N14q, e14⟩ := hQ14
  have N14 := Fr.app N12 N14q
  replace X14 : Stand p l e room_1 s m _ below meth c T14 _ 0 0 := X14
  refine own_go st14 ?_
  show WP p e below _ (T14.setTop (mkF m 72 #[.val (.int p1), .val (.int p2), .val (.int p3), .val (.int p4), .val (.int vi2), .val (.int vi4), .val (.int vi6), .val (.int vi8), .val (.long vj9), .second, .unset, .unset] [(.long (f2 vi6 (16 : Int32))), (.long (vj11 ||| vj13))]))
  generalize he15 : (f2 vi6 (16 : Int32)) = vj15
  show WP p e below _ (T14.setTop (mkF m 72 #[.val (.int p1), .val (.int p2), .val (.int p3), .val (.int p4), .val (.int vi2), .val (.int vi4), .val (.int vi6), .val (.int vi8), .val (.long vj9), .second, .unset, .unset] [(.long vj15), (.long (vj11 ||| vj13))]))
  refine own_go (fun t_ k => XS.lor X14.here hx rfl (hb hby at_72) rfl k) ?_
  show WP p e below _ (T14.setTop (mkF m 73 #[.val (.int p1), .val (.int p2), .val (.int p3), .val (.int p4), .val (.int vi2), .val (.int vi4), .val (.int vi6), .val (.int vi8), .val (.long vj9), .second, .unset, .unset] [(.long ((vj11 ||| vj13) ||| vj15))]))
  refine own_go (fun t_ k => XS.iload X14.here hx rfl (hb hby at_73) rfl k) ?_
  show WP p e below _ (T14.setTop (mkF m 75 #[.val (.int p1), .val (.int p2), .val (.int p3), .val (.int p4), .val (.int vi2), .val (.int vi4), .val (.int vi6), .val (.int vi8), .val (.long vj9), .second, .unset, .unset] [(.int vi8), (.long ((vj11 ||| vj13) ||| vj15))]))
  refine own_go (fun t_ k => XS.iconst X14.here hx rfl (hb hby at_75) k) ?_
  show WP p e below _ (T14.setTop (mkF m 76 #[.val (.int p1), .val (.int p2), .val (.int p3), .val (.int p4), .val (.int vi2), .val (.int vi4), .val (.int vi6), .val (.int vi8), .val (.long vj9), .second, .unset, .unset] [(.int (0 : Int32)), (.int vi8), (.long ((vj11 ||| vj13) ||| vj15))]))
  obtain ⟨_, _, ⟨T16, L16, k16, n16⟩, -, X16, ⟨Lc16, hQ16, l16, y16, z16⟩, st16⟩ := Jvm.LawKit.callS X14 hx (y := (⟨"com/example/bittern/bittern/DigitsDigitsPinLaw", "lane", "(II)J"⟩ : MethodName)) hown (mvT hZ (hw _ (List.mem_of_getElem? (i := 5) rfl))) (mvT hZ (hw _ (List.mem_of_getElem? (i := 6) rfl))) (mvT hZ (hw _ (List.mem_of_getElem? (i := 2) rfl))) (mvT hZ (hw _ (List.mem_of_getElem? (i := 7) rfl))) (by decide) (backOf (W := 2) (rm2 l Z a0 hw [] vi8 (0 : Int32) h0 n0) hZ (hw _ (List.mem_of_getElem? (i := 7) rfl)) (hw _ (List.mem_of_getElem? (i := 2) rfl)) (by decide) (by decide)) (g := (mkF m 76 #[.val (.int p1), .val (.int p2), .val (.int p3), .val (.int p4), .val (.int vi2), .val (.int vi4), .val (.int vi6), .val (.int vi8), .val (.long vj9), .second, .unset, .unset] [(.int (0 : Int32)), (.int vi8), (.long ((vj11 ||| vj13) ||| vj15))])) rfl (by rw [hml]; rfl) (argsL := [(.int vi8), (.int (0 : Int32))]) (rest := [(.long ((vj11 ||| vj13) ||| vj15))]) (lenOf pd_1 rfl) rfl (by show 2 * 0 + _ ≤ _; exact Nat.le_of_eq rfl) (hb hby at_76) (fun _ _ => ⟨rfl, e14, (by decide : 0 + 0 ≤ _), (by decide : 0 + 0 ≤ _)⟩)
  dsimp only [Pt.U, Pt.locs, Pt.cells, Pt.slots] at X16 l16 y16 z16 st16 hQ16
  subst l16 y16 z16
  obtain ⟨rfl, N16q, e16⟩ := hQ16
  have N16 := Fr.app N14 N16q
  replace X16 : Stand p l e room_1 s m _ below meth c T16 _ 0 0 := X16
  refine own_go st16 ?_
  show WP p e below _ (T16.setTop (mkF m 79 #[.val (.int p1), .val (.int p2), .val (.int p3), .val (.int p4), .val (.int vi2), .val (.int vi4), .val (.int vi6), .val (.int vi8), .val (.long vj9), .second, .unset, .unset] [(.long (f2 vi8 (0 : Int32))), (.long ((vj11 ||| vj13) ||| vj15))]))
  generalize he17 : (f2 vi8 (0 : Int32)) = vj17
  show WP p e below _ (T16.setTop (mkF m 79 #[.val (.int p1), .val (.int p2), .val (.int p3), .val (.int p4), .val (.int vi2), .val (.int vi4), .val (.int vi6), .val (.int vi8), .val (.long vj9), .second, .unset, .unset] [(.long vj17), (.long ((vj11 ||| vj13) ||| vj15))]))
  refine own_go (fun t_ k => XS.lor X16.here hx rfl (hb hby at_79) rfl k) ?_
  show WP p e below _ (T16.setTop (mkF m 80 #[.val (.int p1), .val (.int p2), .val (.int p3), .val (.int p4), .val (.int vi2), .val (.int vi4), .val (.int vi6), .val (.int vi8), .val (.long vj9), .second, .unset, .unset] [(.long (((vj11 ||| vj13) ||| vj15) ||| vj17))]))
  refine own_go (fun t_ k => XS.lstore X16.here hx rfl (hb hby at_80) rfl (l' := #[.val (.int p1), .val (.int p2), .val (.int p3), .val (.int p4), .val (.int vi2), .val (.int vi4), .val (.int vi6), .val (.int vi8), .val (.long vj9), .second, .val (.long (((vj11 ||| vj13) ||| vj15) ||| vj17)), .second]) rfl k) ?_
  show WP p e below _ (T16.setTop (mkF m 82 #[.val (.int p1), .val (.int p2), .val (.int p3), .val (.int p4), .val (.int vi2), .val (.int vi4), .val (.int vi6), .val (.int vi8), .val (.long vj9), .second, .val (.long (((vj11 ||| vj13) ||| vj15) ||| vj17)), .second] []))
  generalize he18 : (((vj11 ||| vj13) ||| vj15) ||| vj17) = vj18
  show WP p e below _ (T16.setTop (mkF m 82 #[.val (.int p1), .val (.int p2), .val (.int p3), .val (.int p4), .val (.int vi2), .val (.int vi4), .val (.int vi6), .val (.int vi8), .val (.long vj9), .second, .val (.long vj18), .second] []))
  refine own_go (fun t_ k => XS.lload X16.here hx rfl (hb hby at_82) rfl k) ?_
  show WP p e below _ (T16.setTop (mkF m 84 #[.val (.int p1), .val (.int p2), .val (.int p3), .val (.int p4), .val (.int vi2), .val (.int vi4), .val (.int vi6), .val (.int vi8), .val (.long vj9), .second, .val (.long vj18), .second] [(.long vj9)]))
  obtain ⟨_, _, ⟨T19, L19, k19, n19⟩, -, X19, ⟨Lc19, hQ19, l19, y19, z19⟩, st19⟩ := Jvm.LawKit.callS X16 hx (y := (⟨"com/example/bittern/bittern/Digits", "digits", "(J)J"⟩ : MethodName)) hown (mvT hZ (hw _ (List.mem_of_getElem? (i := 8) rfl))) (mvT hZ (hw _ (List.mem_of_getElem? (i := 9) rfl))) (mvT hZ (hw _ (List.mem_of_getElem? (i := 10) rfl))) (mvT hZ (hw _ (List.mem_of_getElem? (i := 11) rfl))) (by decide) (backOf (W := 0) (rm3 l Z a0 hw [] vj9 h0 n0) hZ (hw _ (List.mem_of_getElem? (i := 11) rfl)) (hw _ (List.mem_of_getElem? (i := 10) rfl)) (by decide) (by decide)) (g := (mkF m 84 #[.val (.int p1), .val (.int p2), .val (.int p3), .val (.int p4), .val (.int vi2), .val (.int vi4), .val (.int vi6), .val (.int vi8), .val (.long vj9), .second, .val (.long vj18), .second] [(.long vj9)])) rfl (by rw [hml]; rfl) (argsL := [(.long vj9)]) (rest := []) (lenOf pd_2 rfl) rfl (by show 2 * 0 + _ ≤ _; exact Nat.le_of_eq rfl) (hb hby at_84) (fun _ _ => ⟨rfl, e16, (by decide : 0 + 0 ≤ _), (by decide : 0 + 0 ≤ _)⟩)
  dsimp only [Pt.U, Pt.locs, Pt.cells, Pt.slots] at X19 l19 y19 z19 st19 hQ19
  subst l19 y19 z19
  obtain ⟨rfl, N19q, e19⟩ := hQ19
  have N19 := Fr.app N16 N19q
  replace X19 : Stand p l e room_1 s m _ below meth c T19 _ 0 0 := X19
  refine own_go st19 ?_
  show WP p e below _ (T19.setTop (mkF m 87 #[.val (.int p1), .val (.int p2), .val (.int p3), .val (.int p4), .val (.int vi2), .val (.int vi4), .val (.int vi6), .val (.int vi8), .val (.long vj9), .second, .val (.long vj18), .second] [(.long (f3 vj9))]))
  generalize he20 : (f3 vj9) = vj20
  show WP p e below _ (T19.setTop (mkF m 87 #[.val (.int p1), .val (.int p2), .val (.int p3), .val (.int p4), .val (.int vi2), .val (.int vi4), .val (.int vi6), .val (.int vi8), .val (.long vj9), .second, .val (.long vj18), .second] [(.long vj20)]))
  refine own_go (fun t_ k => XS.lload X19.here hx rfl (hb hby at_87) rfl k) ?_
  show WP p e below _ (T19.setTop (mkF m 89 #[.val (.int p1), .val (.int p2), .val (.int p3), .val (.int p4), .val (.int vi2), .val (.int vi4), .val (.int vi6), .val (.int vi8), .val (.long vj9), .second, .val (.long vj18), .second] [(.long vj18), (.long vj20)]))
  refine own_go (fun t_ k => XS.lcmp X19.here hx rfl (hb hby at_89) rfl k) ?_
  show WP p e below _ (T19.setTop (mkF m 90 #[.val (.int p1), .val (.int p2), .val (.int p3), .val (.int p4), .val (.int vi2), .val (.int vi4), .val (.int vi6), .val (.int vi8), .val (.long vj9), .second, .val (.long vj18), .second] [(.int (lcmpW vj20 vj18))]))
  have J23 : ∀ (T23 : State) (ls23 : List Loc) (X23 : Stand p l e room_1 s m #[(.int p1), (.int p2), (.int p3), (.int p4)] below meth c T23 ls23 0 0) (N23 : Fr n0 ls23) (e23 : T23.heap = h0) (z22_S0 : Int32) (hz22_S0 : z22_S0 = (if vj20 = vj18 then (1 : Int32) else (0 : Int32))), WP p e below (GG (Q0 n0) s room_1.cells room_1.slots) (T23.setTop (mkF m 98 #[.val (.int p1), .val (.int p2), .val (.int p3), .val (.int p4), .val (.int vi2), .val (.int vi4), .val (.int vi6), .val (.int vi8), .val (.long vj9), .second, .val (.long vj18), .second] [(.int z22_S0)])) := by
    intro T23 ls23 X23 N23 e23 z22_S0 hz22_S0
    show WP p e below _ (T23.setTop (mkF m 98 #[.val (.int p1), .val (.int p2), .val (.int p3), .val (.int p4), .val (.int vi2), .val (.int vi4), .val (.int vi6), .val (.int vi8), .val (.long vj9), .second, .val (.long vj18), .second] [(.int z22_S0)]))
    exact own_retZ X23 hx Bd.notSynchronized Bd.returns (hb hby at_98) (by rw [hz22_S0]; (repeat' split); all_goals first | exact Or.inl rfl | exact Or.inr rfl) (show Q0 n0 _ _ _ from ⟨congrArg (fun z => some (Value.int z)) (own_law_1 (p1 := p1) (p2 := p2) (p3 := p3) (p4 := p4) he2 he4 he6 he8 he9 he11 he13 he15 he17 he18 he20 hz22_S0), N23⟩) (by decide) (by decide)
  by_cases hc90_21 : vj20 = vj18
  · refine own_go (fun t_ k => XS.ifNo X19.here hx rfl (hb hby at_90) rfl ((if0 _ _).trans (teq ((lw_eq _ _).mpr hc90_21)).2) k) ?_
    show WP p e below _ (T19.setTop (mkF m 93 #[.val (.int p1), .val (.int p2), .val (.int p3), .val (.int p4), .val (.int vi2), .val (.int vi4), .val (.int vi6), .val (.int vi8), .val (.long vj9), .second, .val (.long vj18), .second] []))
    refine own_go (fun t_ k => XS.iconst X19.here hx rfl (hb hby at_93) k) ?_
    show WP p e below _ (T19.setTop (mkF m 94 #[.val (.int p1), .val (.int p2), .val (.int p3), .val (.int p4), .val (.int vi2), .val (.int vi4), .val (.int vi6), .val (.int vi8), .val (.long vj9), .second, .val (.long vj18), .second] [(.int (1 : Int32))]))
    refine own_go (fun t_ k => XS.goto X19.here hx rfl (pc0 := 94) (pc' := 98) rfl (hb hby at_94) (by decide) (by decide) k) ?_
    show WP p e below _ (T19.setTop (mkF m 98 #[.val (.int p1), .val (.int p2), .val (.int p3), .val (.int p4), .val (.int vi2), .val (.int vi4), .val (.int vi6), .val (.int vi8), .val (.long vj9), .second, .val (.long vj18), .second] [(.int (1 : Int32))]))
    exact J23 T19 _ X19 N19 e19 _ (by rw [if_pos hc90_21])
  · refine own_go (fun t_ k => XS.ifYes X19.here hx rfl (pc0 := 90) (pc' := 97) rfl (hb hby at_90) rfl ((if0 _ _).trans (feq (mt (lw_eq _ _).mp hc90_21)).2) (by decide) (by decide) k) ?_
    show WP p e below _ (T19.setTop (mkF m 97 #[.val (.int p1), .val (.int p2), .val (.int p3), .val (.int p4), .val (.int vi2), .val (.int vi4), .val (.int vi6), .val (.int vi8), .val (.long vj9), .second, .val (.long vj18), .second] []))
    refine own_go (fun t_ k => XS.iconst X19.here hx rfl (hb hby at_97) k) ?_
    show WP p e below _ (T19.setTop (mkF m 98 #[.val (.int p1), .val (.int p2), .val (.int p3), .val (.int p4), .val (.int vi2), .val (.int vi4), .val (.int vi6), .val (.int vi8), .val (.long vj9), .second, .val (.long vj18), .second] [(.int (0 : Int32))]))
    exact J23 T19 _ X19 N19 e19 _ (by rw [if_neg hc90_21])
set_option maxRecDepth 65536 in
set_option maxHeartbeats 40000000 in
theorem comes_1 {Post : Tables → Env → Array Value → State → Outcome → State → Prop} (hpost : ∀ tb e args s v u, (limb_1_1.after args s (.returned v) u = true ∧ limb_1_2.after args s (.returned v) u = true ∧ True) → FrameEnd s (.returned v) u (Jvm.fieldLocs frame_1_writes args s ++ Jvm.arrayLocs frame_1_arrays args s ++ Jvm.staticLocs frame_1_statics s) 0 0 → Post tb e args s (.returned v) u) :
    ArmFor flags0 classFile x code maxLocals ret World_1 tables_1 room_1 Calls_1 rest_1 Pre_1 Post := by
  intro l hfl _ _ p e ha hc hk s m args below hf hA hF happ hP
  obtain ⟨hcalls, hrest, hpre⟩ := hP
  obtain ⟨-, -, -, hnamed, -, -, -, hat⟩ := (Spec.applies_iff hf).mp happ
  obtain ⟨hg, hn⟩ := and_e (Cond.before_iff.mp (show (Jvm.Cond.and given_1 narrow_1).before args s = true from hpre))
  obtain ⟨g1, g2⟩ := and_e hg
  obtain ⟨g3, g4⟩ := and_e g2
  obtain ⟨g5, g6⟩ := and_e g4
  obtain ⟨g7, g8⟩ := and_e g6
  obtain ⟨w0, w1, w2, w3, rfl⟩ : ∃ w0 w1 w2 w3 : Value, args = #[w0, w1, w2, w3] := by
    have hs : args.size = 4 := by simpa [Cond.value, given_1] using g1
    obtain ⟨L⟩ := args
    match L, hs with
    | [w0, w1, w2, w3], _ => exact ⟨w0, w1, w2, w3, rfl⟩
  have hw := fun d (hd : d ∈ tables_1) => atoms_spec (ws := Jvm.Cond.code x code maxLocals ret :: tables_1) hat d (List.mem_cons_of_mem _ hd)
  have hfit : Fit s := fun {y c} hc i hi => by
    obtain ⟨ha, rfl⟩ := Array.getElem?_eq_some_iff.mp hc
    have q := List.all_eq_true.mp ((Array.all_eq_true_iff_forall_mem.mp hF) _ (Array.getElem_mem ha)) i (List.mem_range.mpr hi)
    simpa [Array.getElem?_eq_getElem hi] using q
  obtain ⟨i0, ei0⟩ := is_v g3
  obtain rfl : w0 = (.int i0) := Option.some.inj ei0
  obtain ⟨i1, ei1⟩ := is_v g5
  obtain rfl : w1 = (.int i1) := Option.some.inj ei1
  obtain ⟨i2, ei2⟩ := is_v g7
  obtain rfl : w2 = (.int i2) := Option.some.inj ei2
  obtain ⟨i3, ei3⟩ := is_v g8
  obtain rfl : w3 = (.int i3) := Option.some.inj ei3
  obtain ⟨n, o, h1, h2, h3, _, L, rfl, ⟨rfl, N⟩, hq⟩ := rm0 l s _ hw tables_1 i0 i1 i2 i3 s.heap s.heap.size (Nat.le_refl _) p e ha hc hk s m _ below hf ((Spec.applies_iff_loose hf).mp happ).1 ⟨rfl, State.Warmed39.refl s, rfl⟩ trivial
  refine ⟨n, _, h1, h2, h3, hpost _ _ _ _ _ _ ⟨Cond.after_iff.mpr rfl, Cond.after_iff.mpr (eq_i res_at (Term.int_eval (1)) rfl), trivial⟩ ⟨hq.1, hq.2.1, (hq.2.2.sift fun y hy => Or.inr (N y hy)).mono (by decide) (by decide)⟩⟩
theorem main_1_1 : Claimed_1_1 := comes_1 fun _ _ _ _ _ _ h hF => ⟨h.1, hF⟩
theorem main_1_2 : Claimed_1_2 := comes_1 fun _ _ _ _ _ _ h hF => ⟨h.2.1, hF⟩
end Jvm.Pilot.@@N@@
namespace Jvm.Pilot.@@N@@
open Jvm Jvm.ClassFile Sem Op Lib Jvm.Free Jvm.Stand Jvm.Pilot.@@N@@.Jvm.D
/-! MADE BY PROGRAM (witnessworld.py) out of the Statement's table words and the real class files: 9 classes; the members and pool entries that the words name. The judged class is class 1, her method 3. -/
namespace start1
open Jvm.ClassFile
def u (s : String) : CpInfo := .utf8 (stringToUtf16 s)
/-- a pool by its gaps: so many unusable entries, then the entry; so many at the end -/
def gap : Nat → List CpInfo → List CpInfo
  | 0, r => r
  | n + 1, r => .unusable :: gap n r
def poolList (es : List (Nat × CpInfo)) (last : Nat) : List CpInfo := es.foldr (fun e r => gap e.1 (e.2 :: r)) (gap last [])
def pool (es : List (Nat × CpInfo)) (last : Nat) : Array CpInfo := ⟨poolList es last⟩
def fileOf (pool : Array CpInfo) (this : Nat) (attrs : Array Attribute := #[]) (ms : Array MethodInfo := #[]) (fl : Nat := 33) (sup : Nat := 0) (ifs : Array Nat := #[]) (fds : Array FieldInfo := #[]) : ClassFile where
  minorVersion := 0
  majorVersion := 65
  constantPool := pool
  accessFlags := fl
  thisClass := this
  superClass := sup
  interfaces := ifs
  fields := fds
  methods := ms
  attributes := attrs
def plain (name : String) (sup : Option ClassId) : Class where
  name := name
  kind := .ordinary
  loader := none
  accessFlags := 33
  super := sup
  interfaces := #[]
  cf := none
  fields := #[]
  methods := #[]
  instanceTypes := #[]
  staticTypes := #[]
  resolved := #[]
  callSites := []
  init := .initialized
  statics := none
  mirror := none

def pool0 : Array CpInfo := pool [(5, u "<init>"), (0, u "()V"), (1, .class_ 10), (1, u "java/lang/Object")] 113

def k0m0 : Method := { name := "<init>", desc := "()V", sig := { parameters := [], returnType := none }, accessFlags := 1, code := none }
/-- java/lang/Object -/
def k0 : Class := { plain "java/lang/Object" none with
  accessFlags := 33
  interfaces := #[]
  cf := some (fileOf pool0 8 #[] #[{ accessFlags := 1, nameIndex := 5, descriptorIndex := 6, attributes := #[] }] 33 0 #[] #[])
  fields := #[]
  methods := #[k0m0]
  instanceTypes := #[]
  staticTypes := #[]
  resolved := Array.replicate 124 none
  statics := none }

def pool1 : Array CpInfo := pool [(2, .class_ 4), (1, u "java/lang/Object"), (0, u "<init>"), (0, u "()V"), (0, .integer 2147483647), (0, .methodref 9 10), (0, .class_ 11), (0, .nameAndType 12 13), (0, u "com/example/bittern/bittern/DigitsDigitsPinLaw"), (0, u "pairValue"), (0, u "(I)I"), (0, .methodref 9 15), (0, .nameAndType 16 17), (0, u "lane"), (0, u "(II)J"), (0, .methodref 19 20), (0, .class_ 21), (0, .nameAndType 22 23), (0, u "com/example/bittern/bittern/Digits"), (0, u "digits"), (0, u "(J)J"), (2, u "law"), (0, u "(IIII)Z")] 3

def k1m0 : Method := { name := "<init>", desc := "()V", sig := { parameters := [], returnType := none }, accessFlags := 2, code := none }
def k1c1 : Code := { maxStack := 2, maxLocals := 1, code := method_2_code, exceptionTable := #[], attributes := #[] }
def k1m1 : Method := { name := "pairValue", desc := "(I)I", sig := { parameters := [.int], returnType := some .int }, accessFlags := 10, code := some k1c1 }
def k1c2 : Code := { maxStack := 5, maxLocals := 6, code := method_3_code, exceptionTable := #[], attributes := #[] }
def k1m2 : Method := { name := "lane", desc := "(II)J", sig := { parameters := [.int, .int], returnType := some .long }, accessFlags := 10, code := some k1c2 }
def k1c3 : Code := { maxStack := 5, maxLocals := 12, code := code, exceptionTable := #[], attributes := #[] }
def k1m3 : Method := { name := "law", desc := "(IIII)Z", sig := { parameters := [.int, .int, .int, .int], returnType := some .boolean }, accessFlags := 9, code := some k1c3 }
/-- com/example/bittern/bittern/DigitsDigitsPinLaw -/
def k1 : Class := { plain "com/example/bittern/bittern/DigitsDigitsPinLaw" (some 0) with
  accessFlags := 49
  interfaces := #[]
  cf := some (fileOf pool1 9 #[] #[{ accessFlags := 2, nameIndex := 5, descriptorIndex := 6, attributes := #[] }, { accessFlags := 10, nameIndex := 12, descriptorIndex := 13, attributes := #[] }, { accessFlags := 10, nameIndex := 16, descriptorIndex := 17, attributes := #[] }, { accessFlags := 9, nameIndex := 26, descriptorIndex := 27, attributes := #[] }] 49 2 #[] #[])
  fields := #[]
  methods := #[k1m0, k1m1, k1m2, k1m3]
  instanceTypes := #[]
  staticTypes := #[]
  resolved := Array.replicate 31 none
  statics := none }

def pool2 : Array CpInfo := pool [(1, .class_ 2), (0, u "com/example/bittern/bittern/Digits"), (1, .class_ 6), (1, u "java/lang/Object"), (0, u "<init>"), (0, u "()V"), (32, u "TENS"), (0, u "[B"), (2, u "ONES"), (4, .long 3472328296227680304), (7, .long 10), (1, .long 103), (1, .long 4222189076152335), (10, u "LONG_OCTETS"), (0, u "Ljava/lang/invoke/VarHandle;"), (8, u "INT_OCTETS"), (5, u "SHORT_OCTETS"), (46, u "RADIX"), (0, u "I"), (2, u "PAIR_RADIX"), (1, u "EVERY_OCTET"), (0, u "J"), (2, u "ZEROS"), (0, u "HIGH_NIBBLES"), (0, u "LOW_NIBBLES"), (0, u "SIXES"), (0, u "EVERY_OTHER_OCTET"), (0, u "TENS_MULTIPLIER"), (0, u "TENS_SHIFT"), (0, u "PAIR_NIBBLES"), (0, u "ASCII_LIMIT"), (1, u "SHORT_WORD"), (17, u "(J)J"), (0, u "digits")] 28

def k2m0 : Method := { name := "<init>", desc := "()V", sig := { parameters := [], returnType := none }, accessFlags := 2, code := none }
def k2c1 : Code := { maxStack := 6, maxLocals := 6, code := prog_5_method_12_code, exceptionTable := #[], attributes := #[] }
def k2m1 : Method := { name := "digits", desc := "(J)J", sig := { parameters := [.long], returnType := some .long }, accessFlags := 8, code := some k2c1 }
/-- com/example/bittern/bittern/Digits -/
def k2 : Class := { plain "com/example/bittern/bittern/Digits" (some 0) with
  accessFlags := 48
  interfaces := #[]
  cf := some (fileOf pool2 1 #[] #[{ accessFlags := 2, nameIndex := 7, descriptorIndex := 8, attributes := #[] }, { accessFlags := 8, nameIndex := 175, descriptorIndex := 174, attributes := #[] }] 48 4 #[] #[{ accessFlags := 26, nameIndex := 136, descriptorIndex := 137, attributes := #[] }, { accessFlags := 24, nameIndex := 140, descriptorIndex := 137, attributes := #[] }, { accessFlags := 26, nameIndex := 41, descriptorIndex := 42, attributes := #[] }, { accessFlags := 26, nameIndex := 45, descriptorIndex := 42, attributes := #[] }, { accessFlags := 26, nameIndex := 142, descriptorIndex := 143, attributes := #[] }, { accessFlags := 26, nameIndex := 146, descriptorIndex := 143, attributes := #[] }, { accessFlags := 26, nameIndex := 147, descriptorIndex := 143, attributes := #[] }, { accessFlags := 26, nameIndex := 148, descriptorIndex := 143, attributes := #[] }, { accessFlags := 26, nameIndex := 149, descriptorIndex := 143, attributes := #[] }, { accessFlags := 26, nameIndex := 150, descriptorIndex := 143, attributes := #[] }, { accessFlags := 26, nameIndex := 151, descriptorIndex := 143, attributes := #[] }, { accessFlags := 26, nameIndex := 152, descriptorIndex := 137, attributes := #[] }, { accessFlags := 26, nameIndex := 153, descriptorIndex := 143, attributes := #[] }, { accessFlags := 26, nameIndex := 154, descriptorIndex := 137, attributes := #[] }, { accessFlags := 26, nameIndex := 156, descriptorIndex := 137, attributes := #[] }, { accessFlags := 26, nameIndex := 73, descriptorIndex := 74, attributes := #[] }, { accessFlags := 26, nameIndex := 83, descriptorIndex := 74, attributes := #[] }, { accessFlags := 26, nameIndex := 89, descriptorIndex := 74, attributes := #[] }])
  fields := #[{ name := "RADIX", type := .int, accessFlags := 26, slot := 0, constantValue := 0 }, { name := "PAIR_RADIX", type := .int, accessFlags := 24, slot := 1, constantValue := 0 }, { name := "TENS", type := (.array .byte), accessFlags := 26, slot := 2, constantValue := 0 }, { name := "ONES", type := (.array .byte), accessFlags := 26, slot := 3, constantValue := 0 }, { name := "EVERY_OCTET", type := .long, accessFlags := 26, slot := 4, constantValue := 0 }, { name := "ZEROS", type := .long, accessFlags := 26, slot := 5, constantValue := 0 }, { name := "HIGH_NIBBLES", type := .long, accessFlags := 26, slot := 6, constantValue := 0 }, { name := "LOW_NIBBLES", type := .long, accessFlags := 26, slot := 7, constantValue := 0 }, { name := "SIXES", type := .long, accessFlags := 26, slot := 8, constantValue := 0 }, { name := "EVERY_OTHER_OCTET", type := .long, accessFlags := 26, slot := 9, constantValue := 0 }, { name := "TENS_MULTIPLIER", type := .long, accessFlags := 26, slot := 10, constantValue := 0 }, { name := "TENS_SHIFT", type := .int, accessFlags := 26, slot := 11, constantValue := 0 }, { name := "PAIR_NIBBLES", type := .long, accessFlags := 26, slot := 12, constantValue := 0 }, { name := "ASCII_LIMIT", type := .int, accessFlags := 26, slot := 13, constantValue := 0 }, { name := "SHORT_WORD", type := .int, accessFlags := 26, slot := 14, constantValue := 0 }, { name := "LONG_OCTETS", type := (.object "java/lang/invoke/VarHandle"), accessFlags := 26, slot := 15, constantValue := 0 }, { name := "INT_OCTETS", type := (.object "java/lang/invoke/VarHandle"), accessFlags := 26, slot := 16, constantValue := 0 }, { name := "SHORT_OCTETS", type := (.object "java/lang/invoke/VarHandle"), accessFlags := 26, slot := 17, constantValue := 0 }]
  methods := #[k2m0, k2m1]
  instanceTypes := #[]
  staticTypes := #[.int, .int, (.array .byte), (.array .byte), .long, .long, .long, .long, .long, .long, .long, .int, .long, .int, .int, (.object "java/lang/invoke/VarHandle"), (.object "java/lang/invoke/VarHandle"), (.object "java/lang/invoke/VarHandle")]
  resolved := Array.replicate 204 none
  statics := none }

def pool3 : Array CpInfo := pool [(1, u "java/lang/Cloneable"), (0, .class_ 1), (0, u "java/lang/Object"), (0, .class_ 3)] 3

/-- java/lang/Cloneable -/
def k3 : Class := { plain "java/lang/Cloneable" (some 0) with
  accessFlags := 1537
  interfaces := #[]
  cf := some (fileOf pool3 2 #[] #[] 1537 4 #[] #[])
  fields := #[]
  methods := #[]
  instanceTypes := #[]
  staticTypes := #[]
  resolved := Array.replicate 8 none
  statics := none }

def pool4 : Array CpInfo := pool [(1, u "java/io/Serializable"), (0, .class_ 1), (0, u "java/lang/Object"), (0, .class_ 3)] 3

/-- java/io/Serializable -/
def k4 : Class := { plain "java/io/Serializable" (some 0) with
  accessFlags := 1537
  interfaces := #[]
  cf := some (fileOf pool4 2 #[] #[] 1537 4 #[] #[])
  fields := #[]
  methods := #[]
  instanceTypes := #[]
  staticTypes := #[]
  resolved := Array.replicate 8 none
  statics := none }

/-- the primitive byte -/
def k5 : Class := { plain "byte" none with kind := .primitive 'B', accessFlags := 0x411 }
/-- [B -/
def k6 : Class := { plain "[B" (some 0) with kind := .array 5 .byte, interfaces := #[3, 4], accessFlags := 1041 }

/-- the primitive int -/
def k7 : Class := { plain "int" none with kind := .primitive 'I', accessFlags := 0x411 }
/-- [I -/
def k8 : Class := { plain "[I" (some 0) with kind := .array 7 .int, interfaces := #[3, 4], accessFlags := 1041 }

def heap : Heap := #[]
def classes : Array Class := #[k0, k1, k2, k3, k4, k5, k6, k7, k8]
def interned : List (Array UInt16 × Addr) := []
def slotsUsed : Nat := 0
def theMethod : MethodId := ⟨1, 3⟩
def args0 : Array Value := #[.int 5, .int 6, .int 7, .int 1]
def aboutOver (below : List Frame) : State where
  vm := { classes := classes, interned := interned.toArray }
  heap := heap
  slotsUsed := slotsUsed
  threads := #[{ frames := .invoking theMethod args0 :: below }]
def below0 : List Frame := [.native { method := ⟨0, 0⟩, args := #[] }]
def about1 : State := aboutOver below0
def p0 : Program := .bare "" "" ""
def e0 : Env := launch0.env 0 0 0
theorem w_frames : about1.frames = Frame.invoking theMethod args0 :: below0 := rfl
set_option maxRecDepth 65536 in
theorem w_args : argsFit about1.vm theMethod args0 = true := by decide +kernel
set_option maxRecDepth 65536 in
theorem w_heap : heapFits about1 = true := by decide +kernel
set_option maxRecDepth 65536 in
theorem w_runnable : about1.curStatus? = some .runnable := by decide +kernel
set_option maxRecDepth 65536 in
theorem w_alone : about1.alone = true := by decide +kernel
set_option maxRecDepth 65536 in
theorem w_named : about1.methodNamed? x = some theMethod := by decide +kernel
set_option maxRecDepth 65536 in
theorem w_hears : about1.hears theMethod below0 = true := by decide +kernel
set_option maxRecDepth 65536 in
theorem w_ripe : about1.ripe theMethod args0 below0 = true := by decide +kernel
theorem w_running : about1.status = .running := rfl
set_option maxRecDepth 65536 in
theorem w_room : about1.hasRoom e0.platform room_1 = true :=
  launch0.hasRoom_least _ room_1 (by decide +kernel) (by decide +kernel) (by decide +kernel) (by decide +kernel) (by decide +kernel) (by decide +kernel)
theorem allAtoms_all (ts : List Jvm.Cond) (a : Array Jvm.Value) (st : Jvm.State) : (allAtoms ts).before a st = ts.all (fun c => c.before a st) := by
  induction ts with
  | nil => rfl
  | cons c t ih =>
    show (Jvm.Cond.and c (allAtoms t)).before a st = _
    rw [Jvm.Cond.before_and, ih, List.all_cons]
def words1 : List Jvm.Cond := Jvm.Cond.code x code maxLocals ret :: tables_1
/-- a 'code' word, met by the world's own term for the bytes: nothing is compared byte by byte -/
theorem code_word {y : MethodName} {bytes : ByteArray} {mx : Nat} {rt : Option FieldType} {a : Array Value} {s : State} {m : MethodId} {meth : Method} {c : Code} (h1 : s.methodNamed? y = some m) (h2 : s.vm.method? m = some meth) (h3 : meth.code = some c) (h4 : c.code = bytes)
    (h5 : (c.maxLocals == mx && c.exceptionTable.isEmpty && decide (c.maxStack ≤ mostOperands) && decide (meth.sig.returnType = rt) && !meth.locks && decide (parseMethodDescriptor y.desc = some meth.sig)) = true) : (Jvm.Cond.code y bytes mx rt).before a s = true := by
  simp only [Bool.and_eq_true, beq_iff_eq, Bool.not_eq_true', decide_eq_true_eq] at h5
  obtain ⟨⟨⟨⟨⟨g1, g2⟩, g3⟩, g4⟩, g5⟩, g6⟩ := h5
  simp [Cond.before, Cond.holds, Cond.value, h1, h2, h3, h4, g1, g2, g3, g4, g5, g6]
def isCode : Jvm.Cond → Bool
  | .code _ _ _ _ => true
  | _ => false
theorem all_split {L : List Jvm.Cond} {P : Jvm.Cond → Bool} (h1 : L.all (fun c => isCode c || P c) = true) (h2 : ∀ c ∈ L.filter isCode, P c = true) : L.all P = true := by
  refine List.all_eq_true.mpr fun c hc => ?_
  have h := List.all_eq_true.mp h1 c hc
  rcases Bool.eq_false_or_eq_true (isCode c) with hi | hi
  · exact h2 c (List.mem_filter.mpr ⟨hc, hi⟩)
  · simpa [hi] using h
set_option maxRecDepth 65536 in
theorem w_c0 : (Jvm.Cond.code x code maxLocals ret).before args0 about1 = true := code_word (m := ⟨1, 3⟩) (meth := k1m3) (c := k1c3) (by decide +kernel) rfl rfl rfl (by decide +kernel)
set_option maxRecDepth 65536 in
theorem w_c1 : (Jvm.Cond.code ({ cls := "com/example/bittern/bittern/DigitsDigitsPinLaw", name := "pairValue", desc := "(I)I" } : Jvm.MethodName) method_2_code (1 : Nat) (Option.some Jvm.ClassFile.FieldType.int)).before args0 about1 = true := code_word (m := ⟨1, 1⟩) (meth := k1m1) (c := k1c1) (by decide +kernel) rfl rfl rfl (by decide +kernel)
set_option maxRecDepth 65536 in
theorem w_c2 : (Jvm.Cond.code ({ cls := "com/example/bittern/bittern/DigitsDigitsPinLaw", name := "lane", desc := "(II)J" } : Jvm.MethodName) method_3_code (6 : Nat) (Option.some Jvm.ClassFile.FieldType.long)).before args0 about1 = true := code_word (m := ⟨1, 2⟩) (meth := k1m2) (c := k1c2) (by decide +kernel) rfl rfl rfl (by decide +kernel)
set_option maxRecDepth 65536 in
theorem w_c3 : (Jvm.Cond.code ({ cls := "com/example/bittern/bittern/Digits", name := "digits", desc := "(J)J" } : Jvm.MethodName) prog_5_method_12_code (6 : Nat) (Option.some Jvm.ClassFile.FieldType.long)).before args0 about1 = true := code_word (m := ⟨2, 1⟩) (meth := k2m1) (c := k2c1) (by decide +kernel) rfl rfl rfl (by decide +kernel)
def codes1 : List Jvm.Cond := [Jvm.Cond.code x code maxLocals ret, Jvm.Cond.code ({ cls := "com/example/bittern/bittern/DigitsDigitsPinLaw", name := "pairValue", desc := "(I)I" } : Jvm.MethodName) method_2_code (1 : Nat) (Option.some Jvm.ClassFile.FieldType.int), Jvm.Cond.code ({ cls := "com/example/bittern/bittern/DigitsDigitsPinLaw", name := "lane", desc := "(II)J" } : Jvm.MethodName) method_3_code (6 : Nat) (Option.some Jvm.ClassFile.FieldType.long), Jvm.Cond.code ({ cls := "com/example/bittern/bittern/Digits", name := "digits", desc := "(J)J" } : Jvm.MethodName) prog_5_method_12_code (6 : Nat) (Option.some Jvm.ClassFile.FieldType.long)]
set_option maxRecDepth 65536 in
theorem codes_eq : words1.filter isCode = codes1 := rfl
theorem w_codes : ∀ c ∈ words1.filter isCode, c.before args0 about1 = true := by
  rw [codes_eq]
  intro c hc
  simp only [codes1, List.mem_cons, List.not_mem_nil, or_false] at hc
  rcases hc with rfl | rfl | rfl | rfl
  · exact w_c0
  · exact w_c1
  · exact w_c2
  · exact w_c3
set_option maxRecDepth 65536 in
theorem w_t1 : words1.all (fun c => isCode c || c.before args0 about1) = true := by decide +kernel
theorem w_tables : (allAtoms (Jvm.Cond.code x code maxLocals ret :: tables_1)).before args0 about1 = true := by
  rw [allAtoms_all]
  show words1.all (fun c => c.before args0 about1) = true
  refine all_split ?_ w_codes
  rw [w_t1]
set_option maxRecDepth 65536 in
theorem w_case : (Jvm.Cond.and given_1 narrow_1).before args0 about1 = true := by decide +kernel
theorem w_applies : (headSpec (Jvm.Cond.code x code maxLocals ret :: tables_1) room_1).applies x e0.platform about1 = true :=
  (Spec.applies_iff w_frames).mpr ⟨w_running, w_runnable, w_alone, w_named, w_hears, w_ripe, w_room, w_tables⟩
theorem atStart : AtStart classFile x code maxLocals ret World_1 tables_1 room_1 Calls_1 rest_1 Pre_1 launch0 p0 e0 about1 theMethod args0 below0 :=
  ⟨lists_1, trivial, launch0.admits_env _ _ _, launch0.least_env, fairChoices_fair.cas, fairChoices_fair.clock, w_frames, w_args, w_heap, w_applies, trivial, trivial, w_case⟩
end start1
theorem witness_1 : WitnessClaimed_1 := ⟨start1.p0, start1.e0, start1.about1, start1.theMethod, start1.args0, start1.below0, start1.atStart⟩
end Jvm.Pilot.@@N@@
