import JvmDerived
import JvmDerived.Pilot.@@N@@Statement
import JvmDerived.Pilot.@@N@@Code
set_option linter.unusedVariables false
set_option linter.unusedSimpArgs false
namespace Jvm.Pilot.@@N@@
open Jvm Jvm.ClassFile Sem Op Lib Jvm.Free Jvm.Stand Jvm.LawKit Jvm.RoadKit Bundle Jvm.Pilot.@@N@@.Jvm.D
/-! The end of a walk, as a goal: from U the run ends, and G holds of the end. -/
def WP (p : Program) (e : Env) (below : List Frame) (G : State → Outcome → Prop) (U : State) : Prop :=
  ∃ s₂ o, Steps p.tables e below U s₂ ∧ s₂.status = .running ∧ Ended s₂ below o ∧ G s₂ o
def GG (Q : Option Value → Heap → List Loc → Prop) (s : State) (k n : Nat) : State → Outcome → Prop :=
  fun t o => ∃ v L, o = .returned v ∧ Q v t.heap L ∧ FrameEnd s o t L k n
theorem own_go {p : Program} {e : Env} {below : List Frame} {G : State → Outcome → Prop} {U V : State} (h : ∀ t, Steps p.tables e below V t → Steps p.tables e below U t) (w : WP p e below G V) : WP p e below G U := by
  obtain ⟨t, o, h1, h2⟩ := w
  exact ⟨t, o, h _ h1, h2⟩
/-- what a body that writes nothing leaves -/
def PQ (h0 : Heap) (n0 : Nat) (w : Value) (v : Option Value) (h : Heap) (L : List Loc) : Prop := v = some w ∧ Fr n0 L ∧ h = h0
/-- what the law leaves -/
def Q0 (n0 : Nat) (v : Option Value) (h : Heap) (L : List Loc) : Prop := v = some (.int 1) ∧ Fr n0 L
section Own
variable {p : Program} {l : Launch} {e : Env} {R : Room} {s : State} {m : MethodId} {args : Array Value} {below : List Frame} {meth : Method} {c : Code} {T : State} {locs : List Loc} {cells slots : Nat}
theorem own_mono (X : Stand p l e R s m args below meth c T locs cells slots) {k n : Nat} (h1 : cells ≤ k) (h2 : slots ≤ n) : Stand p l e R s m args below meth c T locs k n :=
  ⟨X.admits, X.cas, X.clock, X.frames, X.room, X.hears, X.method, X.code, X.here, X.tail, X.warmed, X.limits, X.bytes, X.same.mono h1 h2⟩
theorem own_retI (X : Stand p l e R s m args below meth c T locs cells slots) (hx : p.tables.exec = Jvm.exec) (hnl : meth.locks = false) (hret : meth.sig.returnType = some .int) {pc : Nat} {Ls : Array Slot} {z : Int32} {rest : List Value} (hd : decode c.code pc = .ok (.ireturn, 1)) {Q : Option Value → Heap → List Loc → Prop} {k n : Nat}
    (hq : Q (some (.int z)) T.heap locs) (hc : cells ≤ k) (hs : slots ≤ n) : WP p e below (GG Q s k n) (T.setTop (mkF m pc Ls (.int z :: rest))) := by
  obtain ⟨fs, hr, hrun, hended, hW, hsame⟩ := X.leave (v := some (.int z)) (fun h => by rw [hret] at h; cases h) hnl
  exact ⟨_, _, retOut X hx hret rfl (Or.inl ⟨rfl, Or.inl rfl, z, rfl⟩) hd hr, hrun, hended, _, _, rfl, hq, ⟨_, rfl⟩, hW, hsame.mono hc hs⟩
theorem own_retN (X : Stand p l e R s m args below meth c T locs cells slots) (hx : p.tables.exec = Jvm.exec) (hnl : meth.locks = false) {t : FieldType} (hret : meth.sig.returnType = some t) (ht : t = .boolean ∨ t = .byte ∨ t = .char ∨ t = .short) {pc : Nat} {Ls : Array Slot} {z : Int32} {rest : List Value} (hd : decode c.code pc = .ok (.ireturn, 1)) {Q : Option Value → Heap → List Loc → Prop} {k n : Nat}
    (hq : Q (some (.int (nar t z))) T.heap locs) (hc : cells ≤ k) (hs : slots ≤ n) : WP p e below (GG Q s k n) (T.setTop (mkF m pc Ls (.int z :: rest))) := by
  obtain ⟨fs, hr, hrun, hended, hW, hsame⟩ := X.leave (v := some (.int (nar t z))) (fun h => by rw [hret] at h; cases h) hnl
  exact ⟨_, _, retN X hx hret ht hd hr, hrun, hended, _, _, rfl, hq, ⟨_, rfl⟩, hW, hsame.mono hc hs⟩
theorem own_retZ (X : Stand p l e R s m args below meth c T locs cells slots) (hx : p.tables.exec = Jvm.exec) (hnl : meth.locks = false) (hret : meth.sig.returnType = some .boolean) {pc : Nat} {Ls : Array Slot} {z : Int32} {rest : List Value} (hd : decode c.code pc = .ok (.ireturn, 1)) (hz : z = 0 ∨ z = 1) {Q : Option Value → Heap → List Loc → Prop} {k n : Nat}
    (hq : Q (some (.int z)) T.heap locs) (hc : cells ≤ k) (hs : slots ≤ n) : WP p e below (GG Q s k n) (T.setTop (mkF m pc Ls (.int z :: rest))) := by
  have hb : nar .boolean z = z := by rcases hz with rfl | rfl <;> rfl
  exact own_retN X hx hnl hret (Or.inl rfl) hd (by rw [hb]; exact hq) hc hs
theorem own_retC (X : Stand p l e R s m args below meth c T locs cells slots) (hx : p.tables.exec = Jvm.exec) (hnl : meth.locks = false) (hret : meth.sig.returnType = some .char) {pc : Nat} {Ls : Array Slot} {z : Int32} {rest : List Value} (hd : decode c.code pc = .ok (.ireturn, 1)) {Q : Option Value → Heap → List Loc → Prop} {k n : Nat}
    (hq : Q (some (.int z.toUInt32.toUInt16.toUInt32.toInt32)) T.heap locs) (hc : cells ≤ k) (hs : slots ≤ n) : WP p e below (GG Q s k n) (T.setTop (mkF m pc Ls (.int z :: rest))) :=
  own_retN X hx hnl hret (Or.inr (Or.inr (Or.inl rfl))) hd hq hc hs
theorem own_retB (X : Stand p l e R s m args below meth c T locs cells slots) (hx : p.tables.exec = Jvm.exec) (hnl : meth.locks = false) (hret : meth.sig.returnType = some .byte) {pc : Nat} {Ls : Array Slot} {z : Int32} {rest : List Value} (hd : decode c.code pc = .ok (.ireturn, 1)) {Q : Option Value → Heap → List Loc → Prop} {k n : Nat}
    (hq : Q (some (.int z.toInt8.toInt32)) T.heap locs) (hc : cells ≤ k) (hs : slots ≤ n) : WP p e below (GG Q s k n) (T.setTop (mkF m pc Ls (.int z :: rest))) :=
  own_retN X hx hnl hret (Or.inr (Or.inl rfl)) hd hq hc hs
theorem own_retJ (X : Stand p l e R s m args below meth c T locs cells slots) (hx : p.tables.exec = Jvm.exec) (hnl : meth.locks = false) (hret : meth.sig.returnType = some .long) {pc : Nat} {Ls : Array Slot} {z : Int64} {rest : List Value} (hd : decode c.code pc = .ok (.lreturn, 1)) {Q : Option Value → Heap → List Loc → Prop} {k n : Nat}
    (hq : Q (some (.long z)) T.heap locs) (hc : cells ≤ k) (hs : slots ≤ n) : WP p e below (GG Q s k n) (T.setTop (mkF m pc Ls (.long z :: rest))) := by
  obtain ⟨fs, hr, hrun, hended, hW, hsame⟩ := X.leave (v := some (.long z)) (fun h => by rw [hret] at h; cases h) hnl
  exact ⟨_, _, retOut X hx hret rfl (Or.inr (Or.inl ⟨rfl, rfl, z, rfl⟩)) hd hr, hrun, hended, _, _, rfl, hq, ⟨_, rfl⟩, hW, hsame.mono hc hs⟩
theorem own_retA (X : Stand p l e R s m args below meth c T locs cells slots) (hx : p.tables.exec = Jvm.exec) (hnl : meth.locks = false) {t : FieldType} (hret : meth.sig.returnType = some t) (ht : t.isReference = true) {pc : Nat} {Ls : Array Slot} {w : Value} (hw : w.isRef = true) {rest : List Value} (hd : decode c.code pc = .ok (.areturn, 1)) {Q : Option Value → Heap → List Loc → Prop} {k n : Nat}
    (hq : Q (some w) T.heap locs) (hc : cells ≤ k) (hs : slots ≤ n) : WP p e below (GG Q s k n) (T.setTop (mkF m pc Ls (w :: rest))) := by
  obtain ⟨fs, hr, hrun, hended, hW, hsame⟩ := X.leave (v := some w) (fun h => by rw [hret] at h; cases h) hnl
  have hn : narrow t w = w := by cases t <;> first | rfl | (simp [FieldType.isReference] at ht)
  exact ⟨_, _, retOut X hx hret hn (Or.inr (Or.inr (Or.inr (Or.inr ⟨rfl, ht, hw⟩)))) hd hr, hrun, hended, _, _, rfl, hq, ⟨_, rfl⟩, hW, hsame.mono hc hs⟩
theorem own_ret0 (X : Stand p l e R s m args below meth c T locs cells slots) (hx : p.tables.exec = Jvm.exec) (hnl : meth.locks = false) (hret : meth.sig.returnType = none) {pc : Nat} {Ls : Array Slot} (hd : decode c.code pc = .ok (.return_, 1)) {Q : Option Value → Heap → List Loc → Prop} {k n : Nat}
    (hq : Q none T.heap locs) (hc : cells ≤ k) (hs : slots ≤ n) : WP p e below (GG Q s k n) (T.setTop (mkF m pc Ls [])) := by
  obtain ⟨fs, hr, hrun, hended, hW, hsame⟩ := X.leave (v := none) (fun _ => rfl) hnl
  exact ⟨_, _, X.returnOut hx hret hd hr, hrun, hended, _, _, rfl, hq, ⟨_, rfl⟩, hW, hsame.mono hc hs⟩
end Own

/-! the bits of an int or a long, as a natural -/
theorem nI_inj {x y : Int32} : x = y ↔ x.toBitVec.toNat = y.toBitVec.toNat := ⟨fun h => by rw [h], fun h => Int32.toBitVec_inj.mp (BitVec.eq_of_toNat_eq h)⟩
theorem nJ_inj {x y : Int64} : x = y ↔ x.toBitVec.toNat = y.toBitVec.toNat := ⟨fun h => by rw [h], fun h => Int64.toBitVec_inj.mp (BitVec.eq_of_toNat_eq h)⟩
theorem nI_and (x y : Int32) : (x &&& y).toBitVec.toNat = x.toBitVec.toNat &&& y.toBitVec.toNat := BitVec.toNat_and _ _
theorem nJ_and (x y : Int64) : (x &&& y).toBitVec.toNat = x.toBitVec.toNat &&& y.toBitVec.toNat := BitVec.toNat_and _ _
theorem nJ_or (x y : Int64) : (x ||| y).toBitVec.toNat = x.toBitVec.toNat ||| y.toBitVec.toNat := BitVec.toNat_or _ _
theorem nI_xor (x y : Int32) : (x ^^^ y).toBitVec.toNat = x.toBitVec.toNat ^^^ y.toBitVec.toNat := BitVec.toNat_xor _ _
theorem nJ_xor (x y : Int64) : (x ^^^ y).toBitVec.toNat = x.toBitVec.toNat ^^^ y.toBitVec.toNat := BitVec.toNat_xor _ _
theorem nJ_add (x y : Int64) : (x + y).toBitVec.toNat = (x.toBitVec.toNat + y.toBitVec.toNat) % 18446744073709551616 := BitVec.toNat_add _ _
theorem nJ_mul (x y : Int64) : (x * y).toBitVec.toNat = (x.toBitVec.toNat * y.toBitVec.toNat) % 18446744073709551616 := BitVec.toNat_mul _ _
theorem nJ_sub (x y : Int64) : (x - y).toBitVec.toNat = (18446744073709551616 - y.toBitVec.toNat + x.toBitVec.toNat) % 18446744073709551616 := BitVec.toNat_sub _ _
theorem nI_iushr (x q : Int32) (k : Nat) (hk : q.toBitVec.toNat % 32 = k) : ((x.toUInt32 >>> (q &&& 31).toUInt32).toInt32).toBitVec.toNat = x.toBitVec.toNat / 2 ^ k := by
  have h1 : (q &&& 31).toBitVec.toNat = k := by
    show (q.toBitVec &&& (31 : Int32).toBitVec).toNat = _
    rw [BitVec.toNat_and, show (31 : Int32).toBitVec.toNat = 2 ^ 5 - 1 from by decide, Nat.and_two_pow_sub_one_eq_mod]; exact hk
  show (x.toBitVec >>> ((q &&& 31).toBitVec % 32)).toNat = _
  rw [BitVec.ushiftRight_eq', BitVec.toNat_ushiftRight, Nat.shiftRight_eq_div_pow, BitVec.toNat_umod, h1]; congr 2; exact Nat.mod_eq_of_lt (by show k < 32; omega)
theorem nJ_lushr (x : Int64) (q : Int32) (k : Nat) (hk : q.toBitVec.toNat % 64 = k) : ((x.toUInt64 >>> (q &&& 0x3f).toInt64.toUInt64).toInt64).toBitVec.toNat = x.toBitVec.toNat / 2 ^ k := by
  have h5 := (sm64 q k hk).2
  show (x.toBitVec >>> ((q &&& 0x3f).toInt64.toBitVec % 64)).toNat = _
  rw [BitVec.ushiftRight_eq', BitVec.toNat_ushiftRight, Nat.shiftRight_eq_div_pow, BitVec.toNat_umod, (sm64 q k hk).1, BitVec.toNat_ofNat]; congr 2; show k % 2 ^ 64 % 64 = k; omega
theorem nJ_lshl (x : Int64) (q : Int32) (k : Nat) (hk : q.toBitVec.toNat % 64 = k) : (x <<< (q &&& 0x3f).toInt64).toBitVec.toNat = (x.toBitVec.toNat * 2 ^ k) % 18446744073709551616 := by
  show (x.toBitVec <<< ((q &&& 0x3f).toInt64.toBitVec.smod 64)).toNat = _
  rw [BitVec.shiftLeft_eq', (sm64 q k hk).1, smod64 k (sm64 q k hk).2, BitVec.toNat_shiftLeft, Nat.shiftLeft_eq]
theorem nI_toInt (x : Int32) : (x.toBitVec.toNat : Int) = x.toInt % 4294967296 := by
  have h := x.toBitVec.isLt
  show _ = x.toBitVec.toInt % 4294967296
  rw [BitVec.toInt_eq_toNat_cond]; split <;> omega
theorem nJ_toInt (x : Int64) : (x.toBitVec.toNat : Int) = x.toInt % 18446744073709551616 := by
  have h := x.toBitVec.isLt
  show _ = x.toBitVec.toInt % 18446744073709551616
  rw [BitVec.toInt_eq_toNat_cond]; split <;> omega
theorem nI_lt (x : Int32) : x.toBitVec.toNat < 4294967296 := x.toBitVec.isLt
theorem nJ_lt (x : Int64) : x.toBitVec.toNat < 18446744073709551616 := x.toBitVec.isLt
/-- bits beyond a mask of eight play no part -/
theorem and_low (n m : Nat) (h : m &&& 255 = m) : n &&& m = (n % 256) &&& m := by
  rw [show n % 256 = n &&& 255 from (Nat.and_two_pow_sub_one_eq_mod n 8).symm, Nat.and_assoc, Nat.and_comm 255 m, h]
theorem xor_low (n m : Nat) (h : m < 256) : (n ^^^ m) % 256 = (n % 256) ^^^ m := by
  rw [show (256 : Nat) = 2 ^ 8 from rfl, Nat.xor_mod_two_pow, Nat.mod_eq_of_lt (show m < 2 ^ 8 from h)]
/-- lanes -/
theorem and_lane {k l m h g : Nat} (hl : l < 2 ^ k) (hm : m < 2 ^ k) : (l + 2 ^ k * h) &&& (m + 2 ^ k * g) = (l &&& m) + 2 ^ k * (h &&& g) := by
  have h0 : l &&& m < 2 ^ k := Nat.lt_of_le_of_lt Nat.and_le_left hl
  have e1 := Nat.div_add_mod ((l + 2 ^ k * h) &&& (m + 2 ^ k * g)) (2 ^ k)
  rw [Nat.and_div_two_pow, Nat.and_mod_two_pow, Nat.add_mul_mod_self_left, Nat.add_mul_mod_self_left, Nat.mod_eq_of_lt hl, Nat.mod_eq_of_lt hm, Nat.add_mul_div_left _ _ (Nat.two_pow_pos k), Nat.add_mul_div_left _ _ (Nat.two_pow_pos k), Nat.div_eq_of_lt hl, Nat.div_eq_of_lt hm, Nat.zero_add, Nat.zero_add] at e1
  omega
theorem xor_lane {k l m h g : Nat} (hl : l < 2 ^ k) (hm : m < 2 ^ k) : (l + 2 ^ k * h) ^^^ (m + 2 ^ k * g) = (l ^^^ m) + 2 ^ k * (h ^^^ g) := by
  have e1 := Nat.div_add_mod ((l + 2 ^ k * h) ^^^ (m + 2 ^ k * g)) (2 ^ k)
  rw [Nat.xor_div_two_pow, Nat.xor_mod_two_pow, Nat.add_mul_mod_self_left, Nat.add_mul_mod_self_left, Nat.mod_eq_of_lt hl, Nat.mod_eq_of_lt hm, Nat.add_mul_div_left _ _ (Nat.two_pow_pos k), Nat.add_mul_div_left _ _ (Nat.two_pow_pos k), Nat.div_eq_of_lt hl, Nat.div_eq_of_lt hm, Nat.zero_add, Nat.zero_add] at e1
  omega
theorem or_lane {k l m h g : Nat} (hl : l < 2 ^ k) (hm : m < 2 ^ k) : (l + 2 ^ k * h) ||| (m + 2 ^ k * g) = (l ||| m) + 2 ^ k * (h ||| g) := by
  have e1 := Nat.div_add_mod ((l + 2 ^ k * h) ||| (m + 2 ^ k * g)) (2 ^ k)
  rw [Nat.or_div_two_pow, Nat.or_mod_two_pow, Nat.add_mul_mod_self_left, Nat.add_mul_mod_self_left, Nat.mod_eq_of_lt hl, Nat.mod_eq_of_lt hm, Nat.add_mul_div_left _ _ (Nat.two_pow_pos k), Nat.add_mul_div_left _ _ (Nat.two_pow_pos k), Nat.div_eq_of_lt hl, Nat.div_eq_of_lt hm, Nat.zero_add, Nat.zero_add] at e1
  omega

def f1 (q1 : Int64) (q2 : Int64) (p3 : Int32) (p4 : Int32) : Int64 := (if (((p3.toUInt32 >>> (p4 &&& 31).toUInt32).toInt32) &&& (1 : Int32)) = (0 : Int32) then (((q1.toUInt64 >>> (((8 : Int32) * p4) &&& 0x3f).toInt64.toUInt64).toInt64) &&& (255 : Int64)) else ((48 : Int64) + ((((q2.toUInt64 >>> (((4 : Int32) * p4) &&& 0x3f).toInt64.toUInt64).toInt64) &&& (15 : Int64)) % (10 : Int64))))
theorem d1_0 : decode method_2_code 0 = .ok (.iload 4, 2) := by decide +kernel
theorem d1_2 : decode method_2_code 2 = .ok (.iload 5, 2) := by decide +kernel
theorem d1_4 : decode method_2_code 4 = .ok (.iushr, 1) := by decide +kernel
theorem d1_5 : decode method_2_code 5 = .ok (.iconst 1, 1) := by decide +kernel
theorem d1_6 : decode method_2_code 6 = .ok (.iand, 1) := by decide +kernel
theorem d1_7 : decode method_2_code 7 = .ok (.ifCond .eq 22, 3) := by decide +kernel
theorem d1_10 : decode method_2_code 10 = .ok (.ldc2_w 7, 3) := by decide +kernel
theorem d1_13 : decode method_2_code 13 = .ok (.lload_n 2, 1) := by decide +kernel
theorem d1_14 : decode method_2_code 14 = .ok (.iconst 4, 1) := by decide +kernel
theorem d1_15 : decode method_2_code 15 = .ok (.iload 5, 2) := by decide +kernel
theorem d1_17 : decode method_2_code 17 = .ok (.imul, 1) := by decide +kernel
theorem d1_18 : decode method_2_code 18 = .ok (.lushr, 1) := by decide +kernel
theorem d1_19 : decode method_2_code 19 = .ok (.ldc2_w 9, 3) := by decide +kernel
theorem d1_22 : decode method_2_code 22 = .ok (.land, 1) := by decide +kernel
theorem d1_23 : decode method_2_code 23 = .ok (.ldc2_w 11, 3) := by decide +kernel
theorem d1_26 : decode method_2_code 26 = .ok (.lrem, 1) := by decide +kernel
theorem d1_27 : decode method_2_code 27 = .ok (.ladd, 1) := by decide +kernel
theorem d1_28 : decode method_2_code 28 = .ok (.lreturn, 1) := by decide +kernel
theorem d1_29 : decode method_2_code 29 = .ok (.lload_n 0, 1) := by decide +kernel
theorem d1_30 : decode method_2_code 30 = .ok (.bipush 8, 2) := by decide +kernel
theorem d1_32 : decode method_2_code 32 = .ok (.iload 5, 2) := by decide +kernel
theorem d1_34 : decode method_2_code 34 = .ok (.imul, 1) := by decide +kernel
theorem d1_35 : decode method_2_code 35 = .ok (.lushr, 1) := by decide +kernel
theorem d1_36 : decode method_2_code 36 = .ok (.ldc2_w 13, 3) := by decide +kernel
theorem d1_39 : decode method_2_code 39 = .ok (.land, 1) := by decide +kernel
theorem d1_40 : decode method_2_code 40 = .ok (.lreturn, 1) := by decide +kernel
theorem pn_0 : plainName "com/example/bittern/bittern/DigitsAllDigitsPinLaw" = true := by first | (simp [plainName, overriddenIn]; done) | decide +kernel
theorem ef_rm1 (m : MethodId) (x0 : Int64) (x1 : Int64) (x2 : Int32) (x3 : Int32) : entryFrame m #[(.long x0), (.long x1), (.int x2), (.int x3)] 6 = mkF m 0 #[.val (.long x0), .second, .val (.long x1), .second, .val (.int x2), .val (.int x3)] [] := by first | (simp [entryFrame, mkF, argsToLocals, Value.category]; done) | rfl
set_option maxRecDepth 65536 in
set_option maxHeartbeats 40000000 in
theorem rm1 (l : Launch) (Z : State) (a0 : Array Value) (hw : ∀ d ∈ tables_1, d.before a0 Z = true) (ws : List Jvm.Cond) (q1 : Int64) (q2 : Int64) (p3 : Int32) (p4 : Int32) (h0 : Heap) (n0 : Nat) :
    MetFree l (⟨"com/example/bittern/bittern/DigitsAllDigitsPinLaw", "octet", "(JJII)J"⟩ : MethodName) (head1 (Jvm.Cond.code (⟨"com/example/bittern/bittern/DigitsAllDigitsPinLaw", "octet", "(JJII)J"⟩ : MethodName) method_2_code 6 (some .long) :: ws) ({ frames := 0, cells := 0, slots := 0, locals := 0 } : Room)) (fun a U => a = #[(.long q1), (.long q2), (.int p3), (.int p4)] ∧ Z.Warmed39 U.vm ∧ U.heap = h0) (fun _ _ _ _ _ => True) (fun _ U o U' => ∃ v L, o = .returned v ∧ (PQ h0 n0 (.long (f1 q1 q2 p3 p4))) v U'.heap L ∧ FrameEnd U o U' L ({ frames := 0, cells := 0, slots := 0, locals := 0 } : Room).cells ({ frames := 0, cells := 0, slots := 0, locals := 0 } : Room).slots) := by
  refine MetFree.of_bodySF (plainFor_of_name pn_0) hisR ?_
  intro p e s m args below meth c s₁ Bd hml0 hP hK
  obtain ⟨rfl, hZ, hh⟩ := hP
  have hx := Bd.exec
  have hby := Bd.bytes
  have hml : c.maxLocals = 6 := hml0
  have hown : s.vm.findClass "com/example/bittern/bittern/DigitsAllDigitsPinLaw" = some m.cls := findClass_of_methodNamed Bd.named
  have hnm := (name_of_methodNamed Bd.named Bd.method).1
  have X0 : Stand p l e ({ frames := 0, cells := 0, slots := 0, locals := 0 } : Room) s m #[(.long q1), (.long q2), (.int p3), (.int p4)] below meth c s₁ [] 0 0 := Stand.of_body Bd
  have e0 : s₁.heap = h0 := by rw [← hh, Bd.state]; rfl
  have N0 := Fr.nil n0
  show WP p e below (GG (PQ h0 n0 (.long (f1 q1 q2 p3 p4))) s ({ frames := 0, cells := 0, slots := 0, locals := 0 } : Room).cells ({ frames := 0, cells := 0, slots := 0, locals := 0 } : Room).slots) (s₁.setTop (entryFrame m #[(.long q1), (.long q2), (.int p3), (.int p4)] 6))
  rw [ef_rm1 m q1 q2 p3 p4]
  show WP p e below _ (s₁.setTop (mkF m 0 #[.val (.long q1), .second, .val (.long q2), .second, .val (.int p3), .val (.int p4)] []))
  refine own_go (fun t_ k => XS.iload X0.here hx rfl (hb hby d1_0) rfl k) ?_
  show WP p e below _ (s₁.setTop (mkF m 2 #[.val (.long q1), .second, .val (.long q2), .second, .val (.int p3), .val (.int p4)] [(.int p3)]))
  refine own_go (fun t_ k => XS.iload X0.here hx rfl (hb hby d1_2) rfl k) ?_
  show WP p e below _ (s₁.setTop (mkF m 4 #[.val (.long q1), .second, .val (.long q2), .second, .val (.int p3), .val (.int p4)] [(.int p4), (.int p3)]))
  refine own_go (fun t_ k => XS.iushr X0.here hx rfl (hb hby d1_4) rfl k) ?_
  show WP p e below _ (s₁.setTop (mkF m 5 #[.val (.long q1), .second, .val (.long q2), .second, .val (.int p3), .val (.int p4)] [(.int ((p3.toUInt32 >>> (p4 &&& 31).toUInt32).toInt32))]))
  refine own_go (fun t_ k => XS.iconst X0.here hx rfl (hb hby d1_5) k) ?_
  show WP p e below _ (s₁.setTop (mkF m 6 #[.val (.long q1), .second, .val (.long q2), .second, .val (.int p3), .val (.int p4)] [(.int (1 : Int32)), (.int ((p3.toUInt32 >>> (p4 &&& 31).toUInt32).toInt32))]))
  refine own_go (fun t_ k => XS.iand X0.here hx rfl (hb hby d1_6) rfl k) ?_
  show WP p e below _ (s₁.setTop (mkF m 7 #[.val (.long q1), .second, .val (.long q2), .second, .val (.int p3), .val (.int p4)] [(.int (((p3.toUInt32 >>> (p4 &&& 31).toUInt32).toInt32) &&& (1 : Int32)))]))
  by_cases hc7_1 : (((p3.toUInt32 >>> (p4 &&& 31).toUInt32).toInt32) &&& (1 : Int32)) = (0 : Int32)
  · refine own_go (fun t_ k => XS.ifYes X0.here hx rfl (pc0 := 7) (pc' := 29) rfl (hb hby d1_7) rfl ((if0 _ _).trans (teq hc7_1).1) (by decide) (by decide) k) ?_
    show WP p e below _ (s₁.setTop (mkF m 29 #[.val (.long q1), .second, .val (.long q2), .second, .val (.int p3), .val (.int p4)] []))
    refine own_go (fun t_ k => XS.lloadN X0.here hx rfl (hb hby d1_29) rfl k) ?_
    show WP p e below _ (s₁.setTop (mkF m 30 #[.val (.long q1), .second, .val (.long q2), .second, .val (.int p3), .val (.int p4)] [(.long q1)]))
    refine own_go (fun t_ k => XS.bipush X0.here hx rfl (hb hby d1_30) k) ?_
    show WP p e below _ (s₁.setTop (mkF m 32 #[.val (.long q1), .second, .val (.long q2), .second, .val (.int p3), .val (.int p4)] [(.int (8 : Int32)), (.long q1)]))
    refine own_go (fun t_ k => XS.iload X0.here hx rfl (hb hby d1_32) rfl k) ?_
    show WP p e below _ (s₁.setTop (mkF m 34 #[.val (.long q1), .second, .val (.long q2), .second, .val (.int p3), .val (.int p4)] [(.int p4), (.int (8 : Int32)), (.long q1)]))
    refine own_go (fun t_ k => XS.imul X0.here hx rfl (hb hby d1_34) rfl k) ?_
    show WP p e below _ (s₁.setTop (mkF m 35 #[.val (.long q1), .second, .val (.long q2), .second, .val (.int p3), .val (.int p4)] [(.int ((8 : Int32) * p4)), (.long q1)]))
    refine own_go (fun t_ k => XS.lushr X0.here hx rfl (hb hby d1_35) rfl k) ?_
    show WP p e below _ (s₁.setTop (mkF m 36 #[.val (.long q1), .second, .val (.long q2), .second, .val (.int p3), .val (.int p4)] [(.long ((q1.toUInt64 >>> (((8 : Int32) * p4) &&& 0x3f).toInt64.toUInt64).toInt64))]))
    refine own_go (fun t_ k => X0.ldc2Long hx hown (mvT hZ (hw _ (List.mem_of_getElem? (i := 4) rfl))) (g := (mkF m 36 #[.val (.long q1), .second, .val (.long q2), .second, .val (.int p3), .val (.int p4)] [(.long ((q1.toUInt64 >>> (((8 : Int32) * p4) &&& 0x3f).toInt64.toUInt64).toInt64))])) rfl (hb hby d1_36) _ k) ?_
    show WP p e below _ (s₁.setTop (mkF m 39 #[.val (.long q1), .second, .val (.long q2), .second, .val (.int p3), .val (.int p4)] [(.long (255 : Int64)), (.long ((q1.toUInt64 >>> (((8 : Int32) * p4) &&& 0x3f).toInt64.toUInt64).toInt64))]))
    refine own_go (fun t_ k => XS.land X0.here hx rfl (hb hby d1_39) rfl k) ?_
    show WP p e below _ (s₁.setTop (mkF m 40 #[.val (.long q1), .second, .val (.long q2), .second, .val (.int p3), .val (.int p4)] [(.long (((q1.toUInt64 >>> (((8 : Int32) * p4) &&& 0x3f).toInt64.toUInt64).toInt64) &&& (255 : Int64)))]))
    exact own_retJ X0 hx Bd.notSynchronized Bd.returns (hb hby d1_40) (show PQ h0 n0 (.long (f1 q1 q2 p3 p4)) _ _ _ from ⟨by rw [f1, if_pos hc7_1], N0, e0⟩) (by decide) (by decide)
  · refine own_go (fun t_ k => XS.ifNo X0.here hx rfl (hb hby d1_7) rfl ((if0 _ _).trans (feq hc7_1).1) k) ?_
    show WP p e below _ (s₁.setTop (mkF m 10 #[.val (.long q1), .second, .val (.long q2), .second, .val (.int p3), .val (.int p4)] []))
    refine own_go (fun t_ k => X0.ldc2Long hx hown (mvT hZ (hw _ (List.mem_of_getElem? (i := 8) rfl))) (g := (mkF m 10 #[.val (.long q1), .second, .val (.long q2), .second, .val (.int p3), .val (.int p4)] [])) rfl (hb hby d1_10) _ k) ?_
    show WP p e below _ (s₁.setTop (mkF m 13 #[.val (.long q1), .second, .val (.long q2), .second, .val (.int p3), .val (.int p4)] [(.long (48 : Int64))]))
    refine own_go (fun t_ k => XS.lloadN X0.here hx rfl (hb hby d1_13) rfl k) ?_
    show WP p e below _ (s₁.setTop (mkF m 14 #[.val (.long q1), .second, .val (.long q2), .second, .val (.int p3), .val (.int p4)] [(.long q2), (.long (48 : Int64))]))
    refine own_go (fun t_ k => XS.iconst X0.here hx rfl (hb hby d1_14) k) ?_
    show WP p e below _ (s₁.setTop (mkF m 15 #[.val (.long q1), .second, .val (.long q2), .second, .val (.int p3), .val (.int p4)] [(.int (4 : Int32)), (.long q2), (.long (48 : Int64))]))
    refine own_go (fun t_ k => XS.iload X0.here hx rfl (hb hby d1_15) rfl k) ?_
    show WP p e below _ (s₁.setTop (mkF m 17 #[.val (.long q1), .second, .val (.long q2), .second, .val (.int p3), .val (.int p4)] [(.int p4), (.int (4 : Int32)), (.long q2), (.long (48 : Int64))]))
    refine own_go (fun t_ k => XS.imul X0.here hx rfl (hb hby d1_17) rfl k) ?_
    show WP p e below _ (s₁.setTop (mkF m 18 #[.val (.long q1), .second, .val (.long q2), .second, .val (.int p3), .val (.int p4)] [(.int ((4 : Int32) * p4)), (.long q2), (.long (48 : Int64))]))
    refine own_go (fun t_ k => XS.lushr X0.here hx rfl (hb hby d1_18) rfl k) ?_
    show WP p e below _ (s₁.setTop (mkF m 19 #[.val (.long q1), .second, .val (.long q2), .second, .val (.int p3), .val (.int p4)] [(.long ((q2.toUInt64 >>> (((4 : Int32) * p4) &&& 0x3f).toInt64.toUInt64).toInt64)), (.long (48 : Int64))]))
    refine own_go (fun t_ k => X0.ldc2Long hx hown (mvT hZ (hw _ (List.mem_of_getElem? (i := 16) rfl))) (g := (mkF m 19 #[.val (.long q1), .second, .val (.long q2), .second, .val (.int p3), .val (.int p4)] [(.long ((q2.toUInt64 >>> (((4 : Int32) * p4) &&& 0x3f).toInt64.toUInt64).toInt64)), (.long (48 : Int64))])) rfl (hb hby d1_19) _ k) ?_
    show WP p e below _ (s₁.setTop (mkF m 22 #[.val (.long q1), .second, .val (.long q2), .second, .val (.int p3), .val (.int p4)] [(.long (15 : Int64)), (.long ((q2.toUInt64 >>> (((4 : Int32) * p4) &&& 0x3f).toInt64.toUInt64).toInt64)), (.long (48 : Int64))]))
    refine own_go (fun t_ k => XS.land X0.here hx rfl (hb hby d1_22) rfl k) ?_
    show WP p e below _ (s₁.setTop (mkF m 23 #[.val (.long q1), .second, .val (.long q2), .second, .val (.int p3), .val (.int p4)] [(.long (((q2.toUInt64 >>> (((4 : Int32) * p4) &&& 0x3f).toInt64.toUInt64).toInt64) &&& (15 : Int64))), (.long (48 : Int64))]))
    refine own_go (fun t_ k => X0.ldc2Long hx hown (mvT hZ (hw _ (List.mem_of_getElem? (i := 17) rfl))) (g := (mkF m 23 #[.val (.long q1), .second, .val (.long q2), .second, .val (.int p3), .val (.int p4)] [(.long (((q2.toUInt64 >>> (((4 : Int32) * p4) &&& 0x3f).toInt64.toUInt64).toInt64) &&& (15 : Int64))), (.long (48 : Int64))])) rfl (hb hby d1_23) _ k) ?_
    show WP p e below _ (s₁.setTop (mkF m 26 #[.val (.long q1), .second, .val (.long q2), .second, .val (.int p3), .val (.int p4)] [(.long (10 : Int64)), (.long (((q2.toUInt64 >>> (((4 : Int32) * p4) &&& 0x3f).toInt64.toUInt64).toInt64) &&& (15 : Int64))), (.long (48 : Int64))]))
    refine own_go (fun t_ k => XS.lrem X0.here hx rfl (hb hby d1_26) rfl (by decide) ((congrArg (fun z => Steps p.tables e below (s₁.setTop (mkF m 27 #[.val (.long q1), .second, .val (.long q2), .second, .val (.int p3), .val (.int p4)] [(.long z), (.long (48 : Int64))])) t_) (lrem_mod (((q2.toUInt64 >>> (((4 : Int32) * p4) &&& 0x3f).toInt64.toUInt64).toInt64) &&& (15 : Int64)) (10 : Int64))).mpr k)) ?_
    show WP p e below _ (s₁.setTop (mkF m 27 #[.val (.long q1), .second, .val (.long q2), .second, .val (.int p3), .val (.int p4)] [(.long ((((q2.toUInt64 >>> (((4 : Int32) * p4) &&& 0x3f).toInt64.toUInt64).toInt64) &&& (15 : Int64)) % (10 : Int64))), (.long (48 : Int64))]))
    refine own_go (fun t_ k => XS.ladd X0.here hx rfl (hb hby d1_27) rfl k) ?_
    show WP p e below _ (s₁.setTop (mkF m 28 #[.val (.long q1), .second, .val (.long q2), .second, .val (.int p3), .val (.int p4)] [(.long ((48 : Int64) + ((((q2.toUInt64 >>> (((4 : Int32) * p4) &&& 0x3f).toInt64.toUInt64).toInt64) &&& (15 : Int64)) % (10 : Int64))))]))
    exact own_retJ X0 hx Bd.notSynchronized Bd.returns (hb hby d1_28) (show PQ h0 n0 (.long (f1 q1 q2 p3 p4)) _ _ _ from ⟨by rw [f1, if_neg hc7_1], N0, e0⟩) (by decide) (by decide)
def f2 (q1 : Int64) (p2 : Int32) : Int32 := (if (((q1.toUInt64 >>> (((8 : Int32) * p2) &&& 0x3f).toInt64.toUInt64).toInt64) &&& (255 : Int64)) < (48 : Int64) then (0 : Int32) else (if (57 : Int64) < (((q1.toUInt64 >>> (((8 : Int32) * p2) &&& 0x3f).toInt64.toUInt64).toInt64) &&& (255 : Int64)) then (0 : Int32) else (1 : Int32)))
theorem d2_0 : decode method_3_code 0 = .ok (.lload_n 0, 1) := by decide +kernel
theorem d2_1 : decode method_3_code 1 = .ok (.bipush 8, 2) := by decide +kernel
theorem d2_3 : decode method_3_code 3 = .ok (.iload_n 2, 1) := by decide +kernel
theorem d2_4 : decode method_3_code 4 = .ok (.imul, 1) := by decide +kernel
theorem d2_5 : decode method_3_code 5 = .ok (.lushr, 1) := by decide +kernel
theorem d2_6 : decode method_3_code 6 = .ok (.ldc2_w 13, 3) := by decide +kernel
theorem d2_9 : decode method_3_code 9 = .ok (.land, 1) := by decide +kernel
theorem d2_10 : decode method_3_code 10 = .ok (.lstore_n 3, 1) := by decide +kernel
theorem d2_11 : decode method_3_code 11 = .ok (.lload_n 3, 1) := by decide +kernel
theorem d2_12 : decode method_3_code 12 = .ok (.ldc2_w 7, 3) := by decide +kernel
theorem d2_15 : decode method_3_code 15 = .ok (.lcmp, 1) := by decide +kernel
theorem d2_16 : decode method_3_code 16 = .ok (.ifCond .lt 15, 3) := by decide +kernel
theorem d2_19 : decode method_3_code 19 = .ok (.lload_n 3, 1) := by decide +kernel
theorem d2_20 : decode method_3_code 20 = .ok (.ldc2_w 15, 3) := by decide +kernel
theorem d2_23 : decode method_3_code 23 = .ok (.lcmp, 1) := by decide +kernel
theorem d2_24 : decode method_3_code 24 = .ok (.ifCond .gt 7, 3) := by decide +kernel
theorem d2_27 : decode method_3_code 27 = .ok (.iconst 1, 1) := by decide +kernel
theorem d2_28 : decode method_3_code 28 = .ok (.goto 4, 3) := by decide +kernel
theorem d2_31 : decode method_3_code 31 = .ok (.iconst 0, 1) := by decide +kernel
theorem d2_32 : decode method_3_code 32 = .ok (.ireturn, 1) := by decide +kernel
theorem ef_rm2 (m : MethodId) (x0 : Int64) (x1 : Int32) : entryFrame m #[(.long x0), (.int x1)] 5 = mkF m 0 #[.val (.long x0), .second, .val (.int x1), .unset, .unset] [] := by first | (simp [entryFrame, mkF, argsToLocals, Value.category]; done) | rfl
set_option maxRecDepth 65536 in
set_option maxHeartbeats 40000000 in
theorem rm2 (l : Launch) (Z : State) (a0 : Array Value) (hw : ∀ d ∈ tables_1, d.before a0 Z = true) (ws : List Jvm.Cond) (q1 : Int64) (p2 : Int32) (h0 : Heap) (n0 : Nat) :
    MetFree l (⟨"com/example/bittern/bittern/DigitsAllDigitsPinLaw", "digitAt", "(JI)Z"⟩ : MethodName) (head1 (Jvm.Cond.code (⟨"com/example/bittern/bittern/DigitsAllDigitsPinLaw", "digitAt", "(JI)Z"⟩ : MethodName) method_3_code 5 (some .boolean) :: ws) ({ frames := 0, cells := 0, slots := 0, locals := 0 } : Room)) (fun a U => a = #[(.long q1), (.int p2)] ∧ Z.Warmed39 U.vm ∧ U.heap = h0) (fun _ _ _ _ _ => True) (fun _ U o U' => ∃ v L, o = .returned v ∧ (PQ h0 n0 (.int (f2 q1 p2))) v U'.heap L ∧ FrameEnd U o U' L ({ frames := 0, cells := 0, slots := 0, locals := 0 } : Room).cells ({ frames := 0, cells := 0, slots := 0, locals := 0 } : Room).slots) := by
  refine MetFree.of_bodySF (plainFor_of_name pn_0) hisR ?_
  intro p e s m args below meth c s₁ Bd hml0 hP hK
  obtain ⟨rfl, hZ, hh⟩ := hP
  have hx := Bd.exec
  have hby := Bd.bytes
  have hml : c.maxLocals = 5 := hml0
  have hown : s.vm.findClass "com/example/bittern/bittern/DigitsAllDigitsPinLaw" = some m.cls := findClass_of_methodNamed Bd.named
  have hnm := (name_of_methodNamed Bd.named Bd.method).1
  have X0 : Stand p l e ({ frames := 0, cells := 0, slots := 0, locals := 0 } : Room) s m #[(.long q1), (.int p2)] below meth c s₁ [] 0 0 := Stand.of_body Bd
  have e0 : s₁.heap = h0 := by rw [← hh, Bd.state]; rfl
  have N0 := Fr.nil n0
  show WP p e below (GG (PQ h0 n0 (.int (f2 q1 p2))) s ({ frames := 0, cells := 0, slots := 0, locals := 0 } : Room).cells ({ frames := 0, cells := 0, slots := 0, locals := 0 } : Room).slots) (s₁.setTop (entryFrame m #[(.long q1), (.int p2)] 5))
  rw [ef_rm2 m q1 p2]
  show WP p e below _ (s₁.setTop (mkF m 0 #[.val (.long q1), .second, .val (.int p2), .unset, .unset] []))
  refine own_go (fun t_ k => XS.lloadN X0.here hx rfl (hb hby d2_0) rfl k) ?_
  show WP p e below _ (s₁.setTop (mkF m 1 #[.val (.long q1), .second, .val (.int p2), .unset, .unset] [(.long q1)]))
  refine own_go (fun t_ k => XS.bipush X0.here hx rfl (hb hby d2_1) k) ?_
  show WP p e below _ (s₁.setTop (mkF m 3 #[.val (.long q1), .second, .val (.int p2), .unset, .unset] [(.int (8 : Int32)), (.long q1)]))
  refine own_go (fun t_ k => XS.iloadN X0.here hx rfl (hb hby d2_3) rfl k) ?_
  show WP p e below _ (s₁.setTop (mkF m 4 #[.val (.long q1), .second, .val (.int p2), .unset, .unset] [(.int p2), (.int (8 : Int32)), (.long q1)]))
  refine own_go (fun t_ k => XS.imul X0.here hx rfl (hb hby d2_4) rfl k) ?_
  show WP p e below _ (s₁.setTop (mkF m 5 #[.val (.long q1), .second, .val (.int p2), .unset, .unset] [(.int ((8 : Int32) * p2)), (.long q1)]))
  refine own_go (fun t_ k => XS.lushr X0.here hx rfl (hb hby d2_5) rfl k) ?_
  show WP p e below _ (s₁.setTop (mkF m 6 #[.val (.long q1), .second, .val (.int p2), .unset, .unset] [(.long ((q1.toUInt64 >>> (((8 : Int32) * p2) &&& 0x3f).toInt64.toUInt64).toInt64))]))
  refine own_go (fun t_ k => X0.ldc2Long hx hown (mvT hZ (hw _ (List.mem_of_getElem? (i := 4) rfl))) (g := (mkF m 6 #[.val (.long q1), .second, .val (.int p2), .unset, .unset] [(.long ((q1.toUInt64 >>> (((8 : Int32) * p2) &&& 0x3f).toInt64.toUInt64).toInt64))])) rfl (hb hby d2_6) _ k) ?_
  show WP p e below _ (s₁.setTop (mkF m 9 #[.val (.long q1), .second, .val (.int p2), .unset, .unset] [(.long (255 : Int64)), (.long ((q1.toUInt64 >>> (((8 : Int32) * p2) &&& 0x3f).toInt64.toUInt64).toInt64))]))
  refine own_go (fun t_ k => XS.land X0.here hx rfl (hb hby d2_9) rfl k) ?_
  show WP p e below _ (s₁.setTop (mkF m 10 #[.val (.long q1), .second, .val (.int p2), .unset, .unset] [(.long (((q1.toUInt64 >>> (((8 : Int32) * p2) &&& 0x3f).toInt64.toUInt64).toInt64) &&& (255 : Int64)))]))
  refine own_go (fun t_ k => XS.lstoreN X0.here hx rfl (hb hby d2_10) rfl (l' := #[.val (.long q1), .second, .val (.int p2), .val (.long (((q1.toUInt64 >>> (((8 : Int32) * p2) &&& 0x3f).toInt64.toUInt64).toInt64) &&& (255 : Int64))), .second]) rfl k) ?_
  show WP p e below _ (s₁.setTop (mkF m 11 #[.val (.long q1), .second, .val (.int p2), .val (.long (((q1.toUInt64 >>> (((8 : Int32) * p2) &&& 0x3f).toInt64.toUInt64).toInt64) &&& (255 : Int64))), .second] []))
  refine own_go (fun t_ k => XS.lloadN X0.here hx rfl (hb hby d2_11) rfl k) ?_
  show WP p e below _ (s₁.setTop (mkF m 12 #[.val (.long q1), .second, .val (.int p2), .val (.long (((q1.toUInt64 >>> (((8 : Int32) * p2) &&& 0x3f).toInt64.toUInt64).toInt64) &&& (255 : Int64))), .second] [(.long (((q1.toUInt64 >>> (((8 : Int32) * p2) &&& 0x3f).toInt64.toUInt64).toInt64) &&& (255 : Int64)))]))
  refine own_go (fun t_ k => X0.ldc2Long hx hown (mvT hZ (hw _ (List.mem_of_getElem? (i := 8) rfl))) (g := (mkF m 12 #[.val (.long q1), .second, .val (.int p2), .val (.long (((q1.toUInt64 >>> (((8 : Int32) * p2) &&& 0x3f).toInt64.toUInt64).toInt64) &&& (255 : Int64))), .second] [(.long (((q1.toUInt64 >>> (((8 : Int32) * p2) &&& 0x3f).toInt64.toUInt64).toInt64) &&& (255 : Int64)))])) rfl (hb hby d2_12) _ k) ?_
  show WP p e below _ (s₁.setTop (mkF m 15 #[.val (.long q1), .second, .val (.int p2), .val (.long (((q1.toUInt64 >>> (((8 : Int32) * p2) &&& 0x3f).toInt64.toUInt64).toInt64) &&& (255 : Int64))), .second] [(.long (48 : Int64)), (.long (((q1.toUInt64 >>> (((8 : Int32) * p2) &&& 0x3f).toInt64.toUInt64).toInt64) &&& (255 : Int64)))]))
  refine own_go (fun t_ k => XS.lcmp X0.here hx rfl (hb hby d2_15) rfl k) ?_
  show WP p e below _ (s₁.setTop (mkF m 16 #[.val (.long q1), .second, .val (.int p2), .val (.long (((q1.toUInt64 >>> (((8 : Int32) * p2) &&& 0x3f).toInt64.toUInt64).toInt64) &&& (255 : Int64))), .second] [(.int (lcmpW (((q1.toUInt64 >>> (((8 : Int32) * p2) &&& 0x3f).toInt64.toUInt64).toInt64) &&& (255 : Int64)) (48 : Int64)))]))
  by_cases hc16_1 : (((q1.toUInt64 >>> (((8 : Int32) * p2) &&& 0x3f).toInt64.toUInt64).toInt64) &&& (255 : Int64)) < (48 : Int64)
  · refine own_go (fun t_ k => XS.ifYes X0.here hx rfl (pc0 := 16) (pc' := 31) rfl (hb hby d2_16) rfl ((if0 _ _).trans (tlt ((lw_lt _ _).mpr hc16_1)).1) (by decide) (by decide) k) ?_
    show WP p e below _ (s₁.setTop (mkF m 31 #[.val (.long q1), .second, .val (.int p2), .val (.long (((q1.toUInt64 >>> (((8 : Int32) * p2) &&& 0x3f).toInt64.toUInt64).toInt64) &&& (255 : Int64))), .second] []))
    refine own_go (fun t_ k => XS.iconst X0.here hx rfl (hb hby d2_31) k) ?_
    show WP p e below _ (s₁.setTop (mkF m 32 #[.val (.long q1), .second, .val (.int p2), .val (.long (((q1.toUInt64 >>> (((8 : Int32) * p2) &&& 0x3f).toInt64.toUInt64).toInt64) &&& (255 : Int64))), .second] [(.int (0 : Int32))]))
    exact own_retZ X0 hx Bd.notSynchronized Bd.returns (hb hby d2_32) (by decide) (show PQ h0 n0 (.int (f2 q1 p2)) _ _ _ from ⟨by rw [f2, if_pos hc16_1], N0, e0⟩) (by decide) (by decide)
  · refine own_go (fun t_ k => XS.ifNo X0.here hx rfl (hb hby d2_16) rfl ((if0 _ _).trans (flt (mt (lw_lt _ _).mp hc16_1)).1) k) ?_
    show WP p e below _ (s₁.setTop (mkF m 19 #[.val (.long q1), .second, .val (.int p2), .val (.long (((q1.toUInt64 >>> (((8 : Int32) * p2) &&& 0x3f).toInt64.toUInt64).toInt64) &&& (255 : Int64))), .second] []))
    refine own_go (fun t_ k => XS.lloadN X0.here hx rfl (hb hby d2_19) rfl k) ?_
    show WP p e below _ (s₁.setTop (mkF m 20 #[.val (.long q1), .second, .val (.int p2), .val (.long (((q1.toUInt64 >>> (((8 : Int32) * p2) &&& 0x3f).toInt64.toUInt64).toInt64) &&& (255 : Int64))), .second] [(.long (((q1.toUInt64 >>> (((8 : Int32) * p2) &&& 0x3f).toInt64.toUInt64).toInt64) &&& (255 : Int64)))]))
    refine own_go (fun t_ k => X0.ldc2Long hx hown (mvT hZ (hw _ (List.mem_of_getElem? (i := 18) rfl))) (g := (mkF m 20 #[.val (.long q1), .second, .val (.int p2), .val (.long (((q1.toUInt64 >>> (((8 : Int32) * p2) &&& 0x3f).toInt64.toUInt64).toInt64) &&& (255 : Int64))), .second] [(.long (((q1.toUInt64 >>> (((8 : Int32) * p2) &&& 0x3f).toInt64.toUInt64).toInt64) &&& (255 : Int64)))])) rfl (hb hby d2_20) _ k) ?_
    show WP p e below _ (s₁.setTop (mkF m 23 #[.val (.long q1), .second, .val (.int p2), .val (.long (((q1.toUInt64 >>> (((8 : Int32) * p2) &&& 0x3f).toInt64.toUInt64).toInt64) &&& (255 : Int64))), .second] [(.long (57 : Int64)), (.long (((q1.toUInt64 >>> (((8 : Int32) * p2) &&& 0x3f).toInt64.toUInt64).toInt64) &&& (255 : Int64)))]))
    refine own_go (fun t_ k => XS.lcmp X0.here hx rfl (hb hby d2_23) rfl k) ?_
    show WP p e below _ (s₁.setTop (mkF m 24 #[.val (.long q1), .second, .val (.int p2), .val (.long (((q1.toUInt64 >>> (((8 : Int32) * p2) &&& 0x3f).toInt64.toUInt64).toInt64) &&& (255 : Int64))), .second] [(.int (lcmpW (((q1.toUInt64 >>> (((8 : Int32) * p2) &&& 0x3f).toInt64.toUInt64).toInt64) &&& (255 : Int64)) (57 : Int64)))]))
    by_cases hc24_2 : (57 : Int64) < (((q1.toUInt64 >>> (((8 : Int32) * p2) &&& 0x3f).toInt64.toUInt64).toInt64) &&& (255 : Int64))
    · refine own_go (fun t_ k => XS.ifYes X0.here hx rfl (pc0 := 24) (pc' := 31) rfl (hb hby d2_24) rfl ((if0 _ _).trans (tlt ((lw_gt _ _).mpr hc24_2)).2.2.1) (by decide) (by decide) k) ?_
      show WP p e below _ (s₁.setTop (mkF m 31 #[.val (.long q1), .second, .val (.int p2), .val (.long (((q1.toUInt64 >>> (((8 : Int32) * p2) &&& 0x3f).toInt64.toUInt64).toInt64) &&& (255 : Int64))), .second] []))
      refine own_go (fun t_ k => XS.iconst X0.here hx rfl (hb hby d2_31) k) ?_
      show WP p e below _ (s₁.setTop (mkF m 32 #[.val (.long q1), .second, .val (.int p2), .val (.long (((q1.toUInt64 >>> (((8 : Int32) * p2) &&& 0x3f).toInt64.toUInt64).toInt64) &&& (255 : Int64))), .second] [(.int (0 : Int32))]))
      exact own_retZ X0 hx Bd.notSynchronized Bd.returns (hb hby d2_32) (by decide) (show PQ h0 n0 (.int (f2 q1 p2)) _ _ _ from ⟨by rw [f2, if_neg hc16_1, if_pos hc24_2], N0, e0⟩) (by decide) (by decide)
    · refine own_go (fun t_ k => XS.ifNo X0.here hx rfl (hb hby d2_24) rfl ((if0 _ _).trans (flt (mt (lw_gt _ _).mp hc24_2)).2.2.1) k) ?_
      show WP p e below _ (s₁.setTop (mkF m 27 #[.val (.long q1), .second, .val (.int p2), .val (.long (((q1.toUInt64 >>> (((8 : Int32) * p2) &&& 0x3f).toInt64.toUInt64).toInt64) &&& (255 : Int64))), .second] []))
      refine own_go (fun t_ k => XS.iconst X0.here hx rfl (hb hby d2_27) k) ?_
      show WP p e below _ (s₁.setTop (mkF m 28 #[.val (.long q1), .second, .val (.int p2), .val (.long (((q1.toUInt64 >>> (((8 : Int32) * p2) &&& 0x3f).toInt64.toUInt64).toInt64) &&& (255 : Int64))), .second] [(.int (1 : Int32))]))
      refine own_go (fun t_ k => XS.goto X0.here hx rfl (pc0 := 28) (pc' := 32) rfl (hb hby d2_28) (by decide) (by decide) k) ?_
      show WP p e below _ (s₁.setTop (mkF m 32 #[.val (.long q1), .second, .val (.int p2), .val (.long (((q1.toUInt64 >>> (((8 : Int32) * p2) &&& 0x3f).toInt64.toUInt64).toInt64) &&& (255 : Int64))), .second] [(.int (1 : Int32))]))
      exact own_retZ X0 hx Bd.notSynchronized Bd.returns (hb hby d2_32) (by decide) (show PQ h0 n0 (.int (f2 q1 p2)) _ _ _ from ⟨by rw [f2, if_neg hc16_1, if_neg hc24_2], N0, e0⟩) (by decide) (by decide)
def f3 (q1 : Int64) : Int32 := (if (((q1 &&& (-1085102592571150096 : Int64)) ^^^ (3472328296227680304 : Int64)) ||| (((q1 + (434041037028460038 : Int64)) &&& (-1085102592571150096 : Int64)) ^^^ (3472328296227680304 : Int64))) = (0 : Int64) then (1 : Int32) else (0 : Int32))
theorem d3_0 : decode prog_5_method_10_code 0 = .ok (.lload_n 0, 1) := by decide +kernel
theorem d3_1 : decode prog_5_method_10_code 1 = .ok (.ldc2_w 48, 3) := by decide +kernel
theorem d3_4 : decode prog_5_method_10_code 4 = .ok (.land, 1) := by decide +kernel
theorem d3_5 : decode prog_5_method_10_code 5 = .ok (.ldc2_w 50, 3) := by decide +kernel
theorem d3_8 : decode prog_5_method_10_code 8 = .ok (.lxor, 1) := by decide +kernel
theorem d3_9 : decode prog_5_method_10_code 9 = .ok (.lstore_n 2, 1) := by decide +kernel
theorem d3_10 : decode prog_5_method_10_code 10 = .ok (.lload_n 0, 1) := by decide +kernel
theorem d3_11 : decode prog_5_method_10_code 11 = .ok (.ldc2_w 52, 3) := by decide +kernel
theorem d3_14 : decode prog_5_method_10_code 14 = .ok (.ladd, 1) := by decide +kernel
theorem d3_15 : decode prog_5_method_10_code 15 = .ok (.ldc2_w 48, 3) := by decide +kernel
theorem d3_18 : decode prog_5_method_10_code 18 = .ok (.land, 1) := by decide +kernel
theorem d3_19 : decode prog_5_method_10_code 19 = .ok (.ldc2_w 50, 3) := by decide +kernel
theorem d3_22 : decode prog_5_method_10_code 22 = .ok (.lxor, 1) := by decide +kernel
theorem d3_23 : decode prog_5_method_10_code 23 = .ok (.lstore 4, 2) := by decide +kernel
theorem d3_25 : decode prog_5_method_10_code 25 = .ok (.lload_n 2, 1) := by decide +kernel
theorem d3_26 : decode prog_5_method_10_code 26 = .ok (.lload 4, 2) := by decide +kernel
theorem d3_28 : decode prog_5_method_10_code 28 = .ok (.lor, 1) := by decide +kernel
theorem d3_29 : decode prog_5_method_10_code 29 = .ok (.lconst 0, 1) := by decide +kernel
theorem d3_30 : decode prog_5_method_10_code 30 = .ok (.lcmp, 1) := by decide +kernel
theorem d3_31 : decode prog_5_method_10_code 31 = .ok (.ifCond .ne 7, 3) := by decide +kernel
theorem d3_34 : decode prog_5_method_10_code 34 = .ok (.iconst 1, 1) := by decide +kernel
theorem d3_35 : decode prog_5_method_10_code 35 = .ok (.goto 4, 3) := by decide +kernel
theorem d3_38 : decode prog_5_method_10_code 38 = .ok (.iconst 0, 1) := by decide +kernel
theorem d3_39 : decode prog_5_method_10_code 39 = .ok (.ireturn, 1) := by decide +kernel
theorem pn_1 : plainName "com/example/bittern/bittern/Digits" = true := by first | (simp [plainName, overriddenIn]; done) | decide +kernel
theorem ef_rm3 (m : MethodId) (x0 : Int64) : entryFrame m #[(.long x0)] 6 = mkF m 0 #[.val (.long x0), .second, .unset, .unset, .unset, .unset] [] := by first | (simp [entryFrame, mkF, argsToLocals, Value.category]; done) | rfl
set_option maxRecDepth 65536 in
set_option maxHeartbeats 40000000 in
theorem rm3 (l : Launch) (Z : State) (a0 : Array Value) (hw : ∀ d ∈ tables_1, d.before a0 Z = true) (ws : List Jvm.Cond) (q1 : Int64) (h0 : Heap) (n0 : Nat) :
    MetFree l (⟨"com/example/bittern/bittern/Digits", "allDigits", "(J)Z"⟩ : MethodName) (head1 (Jvm.Cond.code (⟨"com/example/bittern/bittern/Digits", "allDigits", "(J)Z"⟩ : MethodName) prog_5_method_10_code 6 (some .boolean) :: ws) ({ frames := 0, cells := 0, slots := 0, locals := 0 } : Room)) (fun a U => a = #[(.long q1)] ∧ Z.Warmed39 U.vm ∧ U.heap = h0) (fun _ _ _ _ _ => True) (fun _ U o U' => ∃ v L, o = .returned v ∧ (PQ h0 n0 (.int (f3 q1))) v U'.heap L ∧ FrameEnd U o U' L ({ frames := 0, cells := 0, slots := 0, locals := 0 } : Room).cells ({ frames := 0, cells := 0, slots := 0, locals := 0 } : Room).slots) := by
  refine MetFree.of_bodySF (plainFor_of_name pn_1) hisR ?_
  intro p e s m args below meth c s₁ Bd hml0 hP hK
  obtain ⟨rfl, hZ, hh⟩ := hP
  have hx := Bd.exec
  have hby := Bd.bytes
  have hml : c.maxLocals = 6 := hml0
  have hown : s.vm.findClass "com/example/bittern/bittern/Digits" = some m.cls := findClass_of_methodNamed Bd.named
  have hnm := (name_of_methodNamed Bd.named Bd.method).1
  have X0 : Stand p l e ({ frames := 0, cells := 0, slots := 0, locals := 0 } : Room) s m #[(.long q1)] below meth c s₁ [] 0 0 := Stand.of_body Bd
  have e0 : s₁.heap = h0 := by rw [← hh, Bd.state]; rfl
  have N0 := Fr.nil n0
  show WP p e below (GG (PQ h0 n0 (.int (f3 q1))) s ({ frames := 0, cells := 0, slots := 0, locals := 0 } : Room).cells ({ frames := 0, cells := 0, slots := 0, locals := 0 } : Room).slots) (s₁.setTop (entryFrame m #[(.long q1)] 6))
  rw [ef_rm3 m q1]
  show WP p e below _ (s₁.setTop (mkF m 0 #[.val (.long q1), .second, .unset, .unset, .unset, .unset] []))
  refine own_go (fun t_ k => XS.lloadN X0.here hx rfl (hb hby d3_0) rfl k) ?_
  show WP p e below _ (s₁.setTop (mkF m 1 #[.val (.long q1), .second, .unset, .unset, .unset, .unset] [(.long q1)]))
  refine own_go (fun t_ k => X0.ldc2Long hx hown (mvT hZ (hw _ (List.mem_of_getElem? (i := 13) rfl))) (g := (mkF m 1 #[.val (.long q1), .second, .unset, .unset, .unset, .unset] [(.long q1)])) rfl (hb hby d3_1) _ k) ?_
  show WP p e below _ (s₁.setTop (mkF m 4 #[.val (.long q1), .second, .unset, .unset, .unset, .unset] [(.long (-1085102592571150096 : Int64)), (.long q1)]))
  refine own_go (fun t_ k => XS.land X0.here hx rfl (hb hby d3_4) rfl k) ?_
  show WP p e below _ (s₁.setTop (mkF m 5 #[.val (.long q1), .second, .unset, .unset, .unset, .unset] [(.long (q1 &&& (-1085102592571150096 : Int64)))]))
  refine own_go (fun t_ k => X0.ldc2Long hx hown (mvT hZ (hw _ (List.mem_of_getElem? (i := 14) rfl))) (g := (mkF m 5 #[.val (.long q1), .second, .unset, .unset, .unset, .unset] [(.long (q1 &&& (-1085102592571150096 : Int64)))])) rfl (hb hby d3_5) _ k) ?_
  show WP p e below _ (s₁.setTop (mkF m 8 #[.val (.long q1), .second, .unset, .unset, .unset, .unset] [(.long (3472328296227680304 : Int64)), (.long (q1 &&& (-1085102592571150096 : Int64)))]))
  refine own_go (fun t_ k => XS.lxor X0.here hx rfl (hb hby d3_8) rfl k) ?_
  show WP p e below _ (s₁.setTop (mkF m 9 #[.val (.long q1), .second, .unset, .unset, .unset, .unset] [(.long ((q1 &&& (-1085102592571150096 : Int64)) ^^^ (3472328296227680304 : Int64)))]))
  refine own_go (fun t_ k => XS.lstoreN X0.here hx rfl (hb hby d3_9) rfl (l' := #[.val (.long q1), .second, .val (.long ((q1 &&& (-1085102592571150096 : Int64)) ^^^ (3472328296227680304 : Int64))), .second, .unset, .unset]) rfl k) ?_
  show WP p e below _ (s₁.setTop (mkF m 10 #[.val (.long q1), .second, .val (.long ((q1 &&& (-1085102592571150096 : Int64)) ^^^ (3472328296227680304 : Int64))), .second, .unset, .unset] []))
  refine own_go (fun t_ k => XS.lloadN X0.here hx rfl (hb hby d3_10) rfl k) ?_
  show WP p e below _ (s₁.setTop (mkF m 11 #[.val (.long q1), .second, .val (.long ((q1 &&& (-1085102592571150096 : Int64)) ^^^ (3472328296227680304 : Int64))), .second, .unset, .unset] [(.long q1)]))
  refine own_go (fun t_ k => X0.ldc2Long hx hown (mvT hZ (hw _ (List.mem_of_getElem? (i := 15) rfl))) (g := (mkF m 11 #[.val (.long q1), .second, .val (.long ((q1 &&& (-1085102592571150096 : Int64)) ^^^ (3472328296227680304 : Int64))), .second, .unset, .unset] [(.long q1)])) rfl (hb hby d3_11) _ k) ?_
  show WP p e below _ (s₁.setTop (mkF m 14 #[.val (.long q1), .second, .val (.long ((q1 &&& (-1085102592571150096 : Int64)) ^^^ (3472328296227680304 : Int64))), .second, .unset, .unset] [(.long (434041037028460038 : Int64)), (.long q1)]))
  refine own_go (fun t_ k => XS.ladd X0.here hx rfl (hb hby d3_14) rfl k) ?_
  show WP p e below _ (s₁.setTop (mkF m 15 #[.val (.long q1), .second, .val (.long ((q1 &&& (-1085102592571150096 : Int64)) ^^^ (3472328296227680304 : Int64))), .second, .unset, .unset] [(.long (q1 + (434041037028460038 : Int64)))]))
  refine own_go (fun t_ k => X0.ldc2Long hx hown (mvT hZ (hw _ (List.mem_of_getElem? (i := 13) rfl))) (g := (mkF m 15 #[.val (.long q1), .second, .val (.long ((q1 &&& (-1085102592571150096 : Int64)) ^^^ (3472328296227680304 : Int64))), .second, .unset, .unset] [(.long (q1 + (434041037028460038 : Int64)))])) rfl (hb hby d3_15) _ k) ?_
  show WP p e below _ (s₁.setTop (mkF m 18 #[.val (.long q1), .second, .val (.long ((q1 &&& (-1085102592571150096 : Int64)) ^^^ (3472328296227680304 : Int64))), .second, .unset, .unset] [(.long (-1085102592571150096 : Int64)), (.long (q1 + (434041037028460038 : Int64)))]))
  refine own_go (fun t_ k => XS.land X0.here hx rfl (hb hby d3_18) rfl k) ?_
  show WP p e below _ (s₁.setTop (mkF m 19 #[.val (.long q1), .second, .val (.long ((q1 &&& (-1085102592571150096 : Int64)) ^^^ (3472328296227680304 : Int64))), .second, .unset, .unset] [(.long ((q1 + (434041037028460038 : Int64)) &&& (-1085102592571150096 : Int64)))]))
  refine own_go (fun t_ k => X0.ldc2Long hx hown (mvT hZ (hw _ (List.mem_of_getElem? (i := 14) rfl))) (g := (mkF m 19 #[.val (.long q1), .second, .val (.long ((q1 &&& (-1085102592571150096 : Int64)) ^^^ (3472328296227680304 : Int64))), .second, .unset, .unset] [(.long ((q1 + (434041037028460038 : Int64)) &&& (-1085102592571150096 : Int64)))])) rfl (hb hby d3_19) _ k) ?_
  show WP p e below _ (s₁.setTop (mkF m 22 #[.val (.long q1), .second, .val (.long ((q1 &&& (-1085102592571150096 : Int64)) ^^^ (3472328296227680304 : Int64))), .second, .unset, .unset] [(.long (3472328296227680304 : Int64)), (.long ((q1 + (434041037028460038 : Int64)) &&& (-1085102592571150096 : Int64)))]))
  refine own_go (fun t_ k => XS.lxor X0.here hx rfl (hb hby d3_22) rfl k) ?_
  show WP p e below _ (s₁.setTop (mkF m 23 #[.val (.long q1), .second, .val (.long ((q1 &&& (-1085102592571150096 : Int64)) ^^^ (3472328296227680304 : Int64))), .second, .unset, .unset] [(.long (((q1 + (434041037028460038 : Int64)) &&& (-1085102592571150096 : Int64)) ^^^ (3472328296227680304 : Int64)))]))
  refine own_go (fun t_ k => XS.lstore X0.here hx rfl (hb hby d3_23) rfl (l' := #[.val (.long q1), .second, .val (.long ((q1 &&& (-1085102592571150096 : Int64)) ^^^ (3472328296227680304 : Int64))), .second, .val (.long (((q1 + (434041037028460038 : Int64)) &&& (-1085102592571150096 : Int64)) ^^^ (3472328296227680304 : Int64))), .second]) rfl k) ?_
  show WP p e below _ (s₁.setTop (mkF m 25 #[.val (.long q1), .second, .val (.long ((q1 &&& (-1085102592571150096 : Int64)) ^^^ (3472328296227680304 : Int64))), .second, .val (.long (((q1 + (434041037028460038 : Int64)) &&& (-1085102592571150096 : Int64)) ^^^ (3472328296227680304 : Int64))), .second] []))
  refine own_go (fun t_ k => XS.lloadN X0.here hx rfl (hb hby d3_25) rfl k) ?_
  show WP p e below _ (s₁.setTop (mkF m 26 #[.val (.long q1), .second, .val (.long ((q1 &&& (-1085102592571150096 : Int64)) ^^^ (3472328296227680304 : Int64))), .second, .val (.long (((q1 + (434041037028460038 : Int64)) &&& (-1085102592571150096 : Int64)) ^^^ (3472328296227680304 : Int64))), .second] [(.long ((q1 &&& (-1085102592571150096 : Int64)) ^^^ (3472328296227680304 : Int64)))]))
  refine own_go (fun t_ k => XS.lload X0.here hx rfl (hb hby d3_26) rfl k) ?_
  show WP p e below _ (s₁.setTop (mkF m 28 #[.val (.long q1), .second, .val (.long ((q1 &&& (-1085102592571150096 : Int64)) ^^^ (3472328296227680304 : Int64))), .second, .val (.long (((q1 + (434041037028460038 : Int64)) &&& (-1085102592571150096 : Int64)) ^^^ (3472328296227680304 : Int64))), .second] [(.long (((q1 + (434041037028460038 : Int64)) &&& (-1085102592571150096 : Int64)) ^^^ (3472328296227680304 : Int64))), (.long ((q1 &&& (-1085102592571150096 : Int64)) ^^^ (3472328296227680304 : Int64)))]))
  refine own_go (fun t_ k => XS.lor X0.here hx rfl (hb hby d3_28) rfl k) ?_
  show WP p e below _ (s₁.setTop (mkF m 29 #[.val (.long q1), .second, .val (.long ((q1 &&& (-1085102592571150096 : Int64)) ^^^ (3472328296227680304 : Int64))), .second, .val (.long (((q1 + (434041037028460038 : Int64)) &&& (-1085102592571150096 : Int64)) ^^^ (3472328296227680304 : Int64))), .second] [(.long (((q1 &&& (-1085102592571150096 : Int64)) ^^^ (3472328296227680304 : Int64)) ||| (((q1 + (434041037028460038 : Int64)) &&& (-1085102592571150096 : Int64)) ^^^ (3472328296227680304 : Int64))))]))
  refine own_go (fun t_ k => XS.lconst X0.here hx rfl (hb hby d3_29) k) ?_
  show WP p e below _ (s₁.setTop (mkF m 30 #[.val (.long q1), .second, .val (.long ((q1 &&& (-1085102592571150096 : Int64)) ^^^ (3472328296227680304 : Int64))), .second, .val (.long (((q1 + (434041037028460038 : Int64)) &&& (-1085102592571150096 : Int64)) ^^^ (3472328296227680304 : Int64))), .second] [(.long (0 : Int64)), (.long (((q1 &&& (-1085102592571150096 : Int64)) ^^^ (3472328296227680304 : Int64)) ||| (((q1 + (434041037028460038 : Int64)) &&& (-1085102592571150096 : Int64)) ^^^ (3472328296227680304 : Int64))))]))
  refine own_go (fun t_ k => XS.lcmp X0.here hx rfl (hb hby d3_30) rfl k) ?_
  show WP p e below _ (s₁.setTop (mkF m 31 #[.val (.long q1), .second, .val (.long ((q1 &&& (-1085102592571150096 : Int64)) ^^^ (3472328296227680304 : Int64))), .second, .val (.long (((q1 + (434041037028460038 : Int64)) &&& (-1085102592571150096 : Int64)) ^^^ (3472328296227680304 : Int64))), .second] [(.int (lcmpW (((q1 &&& (-1085102592571150096 : Int64)) ^^^ (3472328296227680304 : Int64)) ||| (((q1 + (434041037028460038 : Int64)) &&& (-1085102592571150096 : Int64)) ^^^ (3472328296227680304 : Int64))) (0 : Int64)))]))
  by_cases hc31_1 : (((q1 &&& (-1085102592571150096 : Int64)) ^^^ (3472328296227680304 : Int64)) ||| (((q1 + (434041037028460038 : Int64)) &&& (-1085102592571150096 : Int64)) ^^^ (3472328296227680304 : Int64))) = (0 : Int64)
  · refine own_go (fun t_ k => XS.ifNo X0.here hx rfl (hb hby d3_31) rfl ((if0 _ _).trans (teq ((lw_eq _ _).mpr hc31_1)).2) k) ?_
    show WP p e below _ (s₁.setTop (mkF m 34 #[.val (.long q1), .second, .val (.long ((q1 &&& (-1085102592571150096 : Int64)) ^^^ (3472328296227680304 : Int64))), .second, .val (.long (((q1 + (434041037028460038 : Int64)) &&& (-1085102592571150096 : Int64)) ^^^ (3472328296227680304 : Int64))), .second] []))
    refine own_go (fun t_ k => XS.iconst X0.here hx rfl (hb hby d3_34) k) ?_
    show WP p e below _ (s₁.setTop (mkF m 35 #[.val (.long q1), .second, .val (.long ((q1 &&& (-1085102592571150096 : Int64)) ^^^ (3472328296227680304 : Int64))), .second, .val (.long (((q1 + (434041037028460038 : Int64)) &&& (-1085102592571150096 : Int64)) ^^^ (3472328296227680304 : Int64))), .second] [(.int (1 : Int32))]))
    refine own_go (fun t_ k => XS.goto X0.here hx rfl (pc0 := 35) (pc' := 39) rfl (hb hby d3_35) (by decide) (by decide) k) ?_
    show WP p e below _ (s₁.setTop (mkF m 39 #[.val (.long q1), .second, .val (.long ((q1 &&& (-1085102592571150096 : Int64)) ^^^ (3472328296227680304 : Int64))), .second, .val (.long (((q1 + (434041037028460038 : Int64)) &&& (-1085102592571150096 : Int64)) ^^^ (3472328296227680304 : Int64))), .second] [(.int (1 : Int32))]))
    exact own_retZ X0 hx Bd.notSynchronized Bd.returns (hb hby d3_39) (by decide) (show PQ h0 n0 (.int (f3 q1)) _ _ _ from ⟨by rw [f3, if_pos hc31_1], N0, e0⟩) (by decide) (by decide)
  · refine own_go (fun t_ k => XS.ifYes X0.here hx rfl (pc0 := 31) (pc' := 38) rfl (hb hby d3_31) rfl ((if0 _ _).trans (feq (mt (lw_eq _ _).mp hc31_1)).2) (by decide) (by decide) k) ?_
    show WP p e below _ (s₁.setTop (mkF m 38 #[.val (.long q1), .second, .val (.long ((q1 &&& (-1085102592571150096 : Int64)) ^^^ (3472328296227680304 : Int64))), .second, .val (.long (((q1 + (434041037028460038 : Int64)) &&& (-1085102592571150096 : Int64)) ^^^ (3472328296227680304 : Int64))), .second] []))
    refine own_go (fun t_ k => XS.iconst X0.here hx rfl (hb hby d3_38) k) ?_
    show WP p e below _ (s₁.setTop (mkF m 39 #[.val (.long q1), .second, .val (.long ((q1 &&& (-1085102592571150096 : Int64)) ^^^ (3472328296227680304 : Int64))), .second, .val (.long (((q1 + (434041037028460038 : Int64)) &&& (-1085102592571150096 : Int64)) ^^^ (3472328296227680304 : Int64))), .second] [(.int (0 : Int32))]))
    exact own_retZ X0 hx Bd.notSynchronized Bd.returns (hb hby d3_39) (by decide) (show PQ h0 n0 (.int (f3 q1)) _ _ _ from ⟨by rw [f3, if_neg hc31_1], N0, e0⟩) (by decide) (by decide)
theorem and8 {l m h g : Nat} (hl : l < 256) (hm : m < 256) : (l + 256 * h) &&& (m + 256 * g) = (l &&& m) + 256 * (h &&& g) := and_lane (k := 8) hl hm
theorem own_hi (b : Nat) (h : b < 256) : (b &&& 240) < 256 ∧ ((b &&& 240 = 48) ↔ (48 ≤ b ∧ b ≤ 63)) := by
  have : ∀ b : Fin 256, (b.val &&& 240) < 256 ∧ ((b.val &&& 240 = 48) ↔ (48 ≤ b.val ∧ b.val ≤ 63)) := by decide +kernel
  exact this ⟨b, h⟩
theorem own_and8 (b0 b1 b2 b3 b4 b5 b6 b7 : Nat) (h0 : b0 < 256) (h1 : b1 < 256) (h2 : b2 < 256) (h3 : b3 < 256) (h4 : b4 < 256) (h5 : b5 < 256) (h6 : b6 < 256) (h7 : b7 < 256) :
    ((b0 + 256 * (b1 + 256 * (b2 + 256 * (b3 + 256 * (b4 + 256 * (b5 + 256 * (b6 + 256 * b7))))))) &&& 17361641481138401520 = 3472328296227680304) ↔ ((48 ≤ b0 ∧ b0 ≤ 63) ∧ (48 ≤ b1 ∧ b1 ≤ 63) ∧ (48 ≤ b2 ∧ b2 ≤ 63) ∧ (48 ≤ b3 ∧ b3 ≤ 63) ∧ (48 ≤ b4 ∧ b4 ≤ 63) ∧ (48 ≤ b5 ∧ b5 ≤ 63) ∧ (48 ≤ b6 ∧ b6 ≤ 63) ∧ (48 ≤ b7 ∧ b7 ≤ 63)) := by
  rw [show 17361641481138401520 = 240 + 256 * (240 + 256 * (240 + 256 * (240 + 256 * (240 + 256 * (240 + 256 * (240 + 256 * 240)))))) from rfl, and8 h0 (by decide), and8 h1 (by decide), and8 h2 (by decide), and8 h3 (by decide), and8 h4 (by decide), and8 h5 (by decide), and8 h6 (by decide)]
  have g0 := own_hi b0 h0
  have g1 := own_hi b1 h1
  have g2 := own_hi b2 h2
  have g3 := own_hi b3 h3
  have g4 := own_hi b4 h4
  have g5 := own_hi b5 h5
  have g6 := own_hi b6 h6
  have g7 := own_hi b7 h7
  generalize b0 &&& 240 = c0 at *
  generalize b1 &&& 240 = c1 at *
  generalize b2 &&& 240 = c2 at *
  generalize b3 &&& 240 = c3 at *
  generalize b4 &&& 240 = c4 at *
  generalize b5 &&& 240 = c5 at *
  generalize b6 &&& 240 = c6 at *
  generalize b7 &&& 240 = c7 at *
  rw [← g0.2, ← g1.2, ← g2.2, ← g3.2, ← g4.2, ← g5.2, ← g6.2, ← g7.2]
  have q0 := g0.1
  have q1 := g1.1
  have q2 := g2.1
  have q3 := g3.1
  have q4 := g4.1
  have q5 := g5.1
  have q6 := g6.1
  have q7 := g7.1
  clear g0 g1 g2 g3 g4 g5 g6 g7
  omega
theorem own_xz (a b : Nat) : (a ^^^ b = 0) ↔ a = b := by
  constructor
  · intro h
    apply Nat.eq_of_testBit_eq
    intro i
    have := congrArg (fun z => Nat.testBit z i) h
    simp only [Nat.testBit_xor, Nat.zero_testBit] at this
    cases h1 : a.testBit i <;> cases h2 : b.testBit i <;> simp_all
  · intro h; subst h; exact Nat.xor_self a
theorem own_oz (a b : Nat) : (a ||| b = 0) ↔ (a = 0 ∧ b = 0) := by
  constructor
  · intro h
    have h1 : a ≤ a ||| b := Nat.left_le_or
    have h2 : b ≤ a ||| b := Nat.right_le_or
    omega
  · rintro ⟨rfl, rfl⟩; rfl
theorem own_f3 (w : Int64) (b0 b1 b2 b3 b4 b5 b6 b7 : Nat) (h0 : b0 < 256) (h1 : b1 < 256) (h2 : b2 < 256) (h3 : b3 < 256) (h4 : b4 < 256) (h5 : b5 < 256) (h6 : b6 < 256) (h7 : b7 < 256)
    (hw : w.toBitVec.toNat = b0 + 256 * (b1 + 256 * (b2 + 256 * (b3 + 256 * (b4 + 256 * (b5 + 256 * (b6 + 256 * b7))))))) :
    f3 w = if ((48 ≤ b0 ∧ b0 ≤ 57) ∧ (48 ≤ b1 ∧ b1 ≤ 57) ∧ (48 ≤ b2 ∧ b2 ≤ 57) ∧ (48 ≤ b3 ∧ b3 ≤ 57) ∧ (48 ≤ b4 ∧ b4 ≤ 57) ∧ (48 ≤ b5 ∧ b5 ≤ 57) ∧ (48 ≤ b6 ∧ b6 ≤ 57) ∧ (48 ≤ b7 ∧ b7 ≤ 57)) then 1 else 0 := by
  have e : ((((w &&& (-1085102592571150096 : Int64)) ^^^ (3472328296227680304 : Int64)) ||| (((w + (434041037028460038 : Int64)) &&& (-1085102592571150096 : Int64)) ^^^ (3472328296227680304 : Int64))) = (0 : Int64)) ↔ ((48 ≤ b0 ∧ b0 ≤ 57) ∧ (48 ≤ b1 ∧ b1 ≤ 57) ∧ (48 ≤ b2 ∧ b2 ≤ 57) ∧ (48 ≤ b3 ∧ b3 ≤ 57) ∧ (48 ≤ b4 ∧ b4 ≤ 57) ∧ (48 ≤ b5 ∧ b5 ≤ 57) ∧ (48 ≤ b6 ∧ b6 ≤ 57) ∧ (48 ≤ b7 ∧ b7 ≤ 57)) := by
    rw [nJ_inj, nJ_or, nJ_xor, nJ_xor, nJ_and, nJ_and, nJ_add, hw, show (-1085102592571150096 : Int64).toBitVec.toNat = 17361641481138401520 from by decide, show (3472328296227680304 : Int64).toBitVec.toNat = 3472328296227680304 from by decide, show (434041037028460038 : Int64).toBitVec.toNat = 434041037028460038 from by decide, show (0 : Int64).toBitVec.toNat = 0 from by decide, own_oz, own_xz, own_xz, own_and8 b0 b1 b2 b3 b4 b5 b6 b7 h0 h1 h2 h3 h4 h5 h6 h7]
    constructor
    · rintro ⟨q, r⟩
      rw [show (b0 + 256 * (b1 + 256 * (b2 + 256 * (b3 + 256 * (b4 + 256 * (b5 + 256 * (b6 + 256 * b7)))))) + 434041037028460038) % 18446744073709551616 = (b0 + 6) + 256 * ((b1 + 6) + 256 * ((b2 + 6) + 256 * ((b3 + 6) + 256 * ((b4 + 6) + 256 * ((b5 + 6) + 256 * ((b6 + 6) + 256 * (b7 + 6))))))) by omega, own_and8 _ _ _ _ _ _ _ _ (by omega) (by omega) (by omega) (by omega) (by omega) (by omega) (by omega) (by omega)] at r
      omega
    · intro q
      refine ⟨by omega, ?_⟩
      rw [show (b0 + 256 * (b1 + 256 * (b2 + 256 * (b3 + 256 * (b4 + 256 * (b5 + 256 * (b6 + 256 * b7)))))) + 434041037028460038) % 18446744073709551616 = (b0 + 6) + 256 * ((b1 + 6) + 256 * ((b2 + 6) + 256 * ((b3 + 6) + 256 * ((b4 + 6) + 256 * ((b5 + 6) + 256 * ((b6 + 6) + 256 * (b7 + 6))))))) by omega, own_and8 _ _ _ _ _ _ _ _ (by omega) (by omega) (by omega) (by omega) (by omega) (by omega) (by omega) (by omega)]
      omega
  rw [f3]
  simp only [e]
theorem own_f2 (w : Int64) (i : Int32) (k : Nat) (hk : ((8 : Int32) * i).toBitVec.toNat % 64 = k) (b : Nat) (hb : w.toBitVec.toNat / 2 ^ k % 256 = b) : f2 w i = if 48 ≤ b ∧ b ≤ 57 then 1 else 0 := by
  have e : ((((w.toUInt64 >>> (((8 : Int32) * i) &&& 0x3f).toInt64.toUInt64).toInt64) &&& (255 : Int64))).toInt = b := by
    have h1 := nJ_and ((w.toUInt64 >>> (((8 : Int32) * i) &&& 0x3f).toInt64.toUInt64).toInt64) 255
    rw [nJ_lushr w _ k hk, show (255 : Int64).toBitVec.toNat = 2 ^ 8 - 1 from by decide, Nat.and_two_pow_sub_one_eq_mod, show (2 : Nat) ^ 8 = 256 from rfl, hb] at h1
    have h2 := nJ_toInt (((w.toUInt64 >>> (((8 : Int32) * i) &&& 0x3f).toInt64.toUInt64).toInt64) &&& (255 : Int64))
    rw [h1] at h2
    have h3 := rng64 (((w.toUInt64 >>> (((8 : Int32) * i) &&& 0x3f).toInt64.toUInt64).toInt64) &&& (255 : Int64))
    have h4 : b < 256 := by omega
    omega
  have o1 : (48 : Int64).toInt = 48 := rfl
  have o2 : (57 : Int64).toInt = 57 := rfl
  rw [f2]
  generalize ((((w.toUInt64 >>> (((8 : Int32) * i) &&& 0x3f).toInt64.toUInt64).toInt64) &&& (255 : Int64))) = y at *
  by_cases p1 : y < 48
  · rw [if_pos p1, if_neg]; rw [Int64.lt_iff_toInt_lt] at p1; omega
  · rw [if_neg p1]
    by_cases p2 : 57 < y
    · rw [if_pos p2, if_neg]; rw [Int64.lt_iff_toInt_lt] at p2; omega
    · rw [if_neg p2, if_pos]; rw [Int64.lt_iff_toInt_lt] at p1 p2; omega
theorem pd_0 : parseMethodDescriptor "(JJII)J" = some ⟨[.long, .long, .int, .int], some .long⟩ := by decide +kernel
theorem pd_1 : parseMethodDescriptor "(JI)Z" = some ⟨[.long, .int], some .boolean⟩ := by decide +kernel
theorem pd_2 : parseMethodDescriptor "(J)Z" = some ⟨[.long], some .boolean⟩ := by decide +kernel
theorem own_law_1 {q1 : Int64} {q2 : Int64} {p3 : Int32} {vj2 : Int64} {vj4 : Int64} {vj6 : Int64} {vj8 : Int64} {vj10 : Int64} {vj12 : Int64} {vj14 : Int64} {vj16 : Int64} {vj17 : Int64} {vi19 : Int32} {z21_S0 : Int32} {vi24 : Int32} {z26_S0 : Int32}
    (he2 : (f1 q1 q2 p3 (0 : Int32)) = vj2)
    (he4 : (f1 q1 q2 p3 (1 : Int32)) = vj4)
    (he6 : (f1 q1 q2 p3 (2 : Int32)) = vj6)
    (he8 : (f1 q1 q2 p3 (3 : Int32)) = vj8)
    (he10 : (f1 q1 q2 p3 (4 : Int32)) = vj10)
    (he12 : (f1 q1 q2 p3 (5 : Int32)) = vj12)
    (he14 : (f1 q1 q2 p3 (6 : Int32)) = vj14)
    (he16 : (f1 q1 q2 p3 (7 : Int32)) = vj16)
    (he17 : (((((((vj2 ||| (vj4 <<< ((8 : Int32) &&& 0x3f).toInt64)) ||| (vj6 <<< ((16 : Int32) &&& 0x3f).toInt64)) ||| (vj8 <<< ((24 : Int32) &&& 0x3f).toInt64)) ||| (vj10 <<< ((32 : Int32) &&& 0x3f).toInt64)) ||| (vj12 <<< ((40 : Int32) &&& 0x3f).toInt64)) ||| (vj14 <<< ((48 : Int32) &&& 0x3f).toInt64)) ||| (vj16 <<< ((56 : Int32) &&& 0x3f).toInt64)) = vj17)
    (he19 : (f2 vj17 (0 : Int32)) = vi19)
    (hz21_S0 : z21_S0 = (if vi19 = (0 : Int32) then (0 : Int32) else (if (f2 vj17 (1 : Int32)) = (0 : Int32) then (0 : Int32) else (if (f2 vj17 (2 : Int32)) = (0 : Int32) then (0 : Int32) else (if (f2 vj17 (3 : Int32)) = (0 : Int32) then (0 : Int32) else (if (f2 vj17 (4 : Int32)) = (0 : Int32) then (0 : Int32) else (if (f2 vj17 (5 : Int32)) = (0 : Int32) then (0 : Int32) else (if (f2 vj17 (6 : Int32)) = (0 : Int32) then (0 : Int32) else (if (f2 vj17 (7 : Int32)) = (0 : Int32) then (0 : Int32) else (1 : Int32))))))))))
    (he24 : (f3 vj17) = vi24)
    (hz26_S0 : z26_S0 = (if vi24 = z21_S0 then (1 : Int32) else (0 : Int32)))  : z26_S0 = 1 := by
  subst he19 he24
  have hn := nJ_lt vj17
  obtain ⟨b0, e0⟩ : ∃ b, b = vj17.toBitVec.toNat / 2 ^ 0 % 256 := ⟨_, rfl⟩
  obtain ⟨b1, e1⟩ : ∃ b, b = vj17.toBitVec.toNat / 2 ^ 8 % 256 := ⟨_, rfl⟩
  obtain ⟨b2, e2⟩ : ∃ b, b = vj17.toBitVec.toNat / 2 ^ 16 % 256 := ⟨_, rfl⟩
  obtain ⟨b3, e3⟩ : ∃ b, b = vj17.toBitVec.toNat / 2 ^ 24 % 256 := ⟨_, rfl⟩
  obtain ⟨b4, e4⟩ : ∃ b, b = vj17.toBitVec.toNat / 2 ^ 32 % 256 := ⟨_, rfl⟩
  obtain ⟨b5, e5⟩ : ∃ b, b = vj17.toBitVec.toNat / 2 ^ 40 % 256 := ⟨_, rfl⟩
  obtain ⟨b6, e6⟩ : ∃ b, b = vj17.toBitVec.toNat / 2 ^ 48 % 256 := ⟨_, rfl⟩
  obtain ⟨b7, e7⟩ : ∃ b, b = vj17.toBitVec.toNat / 2 ^ 56 % 256 := ⟨_, rfl⟩
  have hw : vj17.toBitVec.toNat = b0 + 256 * (b1 + 256 * (b2 + 256 * (b3 + 256 * (b4 + 256 * (b5 + 256 * (b6 + 256 * b7)))))) := by
    simp only [Nat.reducePow] at e0 e1 e2 e3 e4 e5 e6 e7
    omega
  rw [own_f3 vj17 b0 b1 b2 b3 b4 b5 b6 b7 (by omega) (by omega) (by omega) (by omega) (by omega) (by omega) (by omega) (by omega) hw] at hz26_S0
  rw [own_f2 vj17 0 0 (by decide) b0 e0.symm, own_f2 vj17 1 8 (by decide) b1 e1.symm, own_f2 vj17 2 16 (by decide) b2 e2.symm, own_f2 vj17 3 24 (by decide) b3 e3.symm, own_f2 vj17 4 32 (by decide) b4 e4.symm, own_f2 vj17 5 40 (by decide) b5 e5.symm, own_f2 vj17 6 48 (by decide) b6 e6.symm, own_f2 vj17 7 56 (by decide) b7 e7.symm] at hz21_S0
  clear e0 e1 e2 e3 e4 e5 e6 e7 hw hn
  by_cases a0 : 48 ≤ b0 ∧ b0 ≤ 57
  · by_cases a1 : 48 ≤ b1 ∧ b1 ≤ 57
    · by_cases a2 : 48 ≤ b2 ∧ b2 ≤ 57
      · by_cases a3 : 48 ≤ b3 ∧ b3 ≤ 57
        · by_cases a4 : 48 ≤ b4 ∧ b4 ≤ 57
          · by_cases a5 : 48 ≤ b5 ∧ b5 ≤ 57
            · by_cases a6 : 48 ≤ b6 ∧ b6 ≤ 57
              · by_cases a7 : 48 ≤ b7 ∧ b7 ≤ 57
                · simp [a0, a1, a2, a3, a4, a5, a6, a7] at hz21_S0; simp [a0, a1, a2, a3, a4, a5, a6, a7, hz21_S0] at hz26_S0; exact hz26_S0
                · simp [a0, a1, a2, a3, a4, a5, a6, a7] at hz21_S0; simp [a0, a1, a2, a3, a4, a5, a6, a7, hz21_S0] at hz26_S0; exact hz26_S0
              · simp [a0, a1, a2, a3, a4, a5, a6] at hz21_S0; simp [a0, a1, a2, a3, a4, a5, a6, hz21_S0] at hz26_S0; exact hz26_S0
            · simp [a0, a1, a2, a3, a4, a5] at hz21_S0; simp [a0, a1, a2, a3, a4, a5, hz21_S0] at hz26_S0; exact hz26_S0
          · simp [a0, a1, a2, a3, a4] at hz21_S0; simp [a0, a1, a2, a3, a4, hz21_S0] at hz26_S0; exact hz26_S0
        · simp [a0, a1, a2, a3] at hz21_S0; simp [a0, a1, a2, a3, hz21_S0] at hz26_S0; exact hz26_S0
      · simp [a0, a1, a2] at hz21_S0; simp [a0, a1, a2, hz21_S0] at hz26_S0; exact hz26_S0
    · simp [a0, a1] at hz21_S0; simp [a0, a1, hz21_S0] at hz26_S0; exact hz26_S0
  · simp [a0] at hz21_S0; simp [a0, hz21_S0] at hz26_S0; exact hz26_S0
theorem ef_rm0 (m : MethodId) (x0 : Int64) (x1 : Int64) (x2 : Int32) : entryFrame m #[(.long x0), (.long x1), (.int x2)] maxLocals = mkF m 0 #[.val (.long x0), .second, .val (.long x1), .second, .val (.int x2), .unset, .unset, .unset] [] := by first | (simp [entryFrame, mkF, argsToLocals, Value.category, maxLocals]; done) | rfl
set_option maxRecDepth 65536 in
set_option maxHeartbeats 40000000 in
theorem rm0 (l : Launch) (Z : State) (a0 : Array Value) (hw : ∀ d ∈ tables_1, d.before a0 Z = true) (ws : List Jvm.Cond) (q1 : Int64) (q2 : Int64) (p3 : Int32) (h0 : Heap) (n0 : Nat) (Z0 : n0 ≤ h0.size) :
    MetFree l x (head1 (Jvm.Cond.code x code maxLocals ret :: ws) room_1) (fun a U => a = #[(.long q1), (.long q2), (.int p3)] ∧ Z.Warmed39 U.vm ∧ U.heap = h0) (fun _ _ _ _ _ => True) (fun _ U o U' => ∃ v L, o = .returned v ∧ (Q0 n0) v U'.heap L ∧ FrameEnd U o U' L room_1.cells room_1.slots) := by
  refine MetFree.of_bodySF (plainFor_of_name pn_0) hisR ?_
  intro p e s m args below meth c s₁ Bd hml0 hP hK
  obtain ⟨rfl, hZ, hh⟩ := hP
  have hx := Bd.exec
  have hby := Bd.bytes
  have hml : c.maxLocals = 8 := hml0
  have hown : s.vm.findClass "com/example/bittern/bittern/DigitsAllDigitsPinLaw" = some m.cls := findClass_of_methodNamed Bd.named
  have hnm := (name_of_methodNamed Bd.named Bd.method).1
  have X0 : Stand p l e room_1 s m #[(.long q1), (.long q2), (.int p3)] below meth c s₁ [] 0 0 := Stand.of_body Bd
  have e0 : s₁.heap = h0 := by rw [← hh, Bd.state]; rfl
  have N0 := Fr.nil n0
  show WP p e below (GG (Q0 n0) s room_1.cells room_1.slots) (s₁.setTop (entryFrame m #[(.long q1), (.long q2), (.int p3)] maxLocals))
  rw [ef_rm0 m q1 q2 p3]
  show WP p e below _ (s₁.setTop (mkF m 0 #[.val (.long q1), .second, .val (.long q2), .second, .val (.int p3), .unset, .unset, .unset] []))
  refine own_go (fun t_ k => XS.lloadN X0.here hx rfl (hb hby at_0) rfl k) ?_
  show WP p e below _ (s₁.setTop (mkF m 1 #[.val (.long q1), .second, .val (.long q2), .second, .val (.int p3), .unset, .unset, .unset] [(.long q1)]))
  refine own_go (fun t_ k => XS.lloadN X0.here hx rfl (hb hby at_1) rfl k) ?_
  show WP p e below _ (s₁.setTop (mkF m 2 #[.val (.long q1), .second, .val (.long q2), .second, .val (.int p3), .unset, .unset, .unset] [(.long q2), (.long q1)]))
  refine own_go (fun t_ k => XS.iload X0.here hx rfl (hb hby at_2) rfl k) ?_
  show WP p e below _ (s₁.setTop (mkF m 4 #[.val (.long q1), .second, .val (.long q2), .second, .val (.int p3), .unset, .unset, .unset] [(.int p3), (.long q2), (.long q1)]))
  refine own_go (fun t_ k => XS.iconst X0.here hx rfl (hb hby at_4) k) ?_
  show WP p e below _ (s₁.setTop (mkF m 5 #[.val (.long q1), .second, .val (.long q2), .second, .val (.int p3), .unset, .unset, .unset] [(.int (0 : Int32)), (.int p3), (.long q2), (.long q1)]))
  obtain ⟨_, _, ⟨T1, L1, k1, n1⟩, -, X1, ⟨Lc1, hQ1, l1, y1, z1⟩, st1⟩ := Jvm.LawKit.callS X0 hx (y := (⟨"com/example/bittern/bittern/DigitsAllDigitsPinLaw", "octet", "(JJII)J"⟩ : MethodName)) hown (mvT hZ (hw _ (List.mem_of_getElem? (i := 0) rfl))) (mvT hZ (hw _ (List.mem_of_getElem? (i := 1) rfl))) (mvT hZ (hw _ (List.mem_of_getElem? (i := 2) rfl))) (mvT hZ (hw _ (List.mem_of_getElem? (i := 3) rfl))) (by decide) (backOf (W := 0) (rm1 l Z a0 hw [] q1 q2 p3 (0 : Int32) h0 n0) hZ (hw _ (List.mem_of_getElem? (i := 3) rfl)) (hw _ (List.mem_of_getElem? (i := 2) rfl)) (by decide) (by decide)) (g := (mkF m 5 #[.val (.long q1), .second, .val (.long q2), .second, .val (.int p3), .unset, .unset, .unset] [(.int (0 : Int32)), (.int p3), (.long q2), (.long q1)])) rfl (by rw [hml]; rfl) (argsL := [(.long q1), (.long q2), (.int p3), (.int (0 : Int32))]) (rest := []) (lenOf pd_0 rfl) rfl (by show 2 * 0 + _ ≤ _; exact Nat.le_of_eq rfl) (hb hby at_5) (fun _ _ => ⟨rfl, e0, (by decide : 0 + 0 ≤ _), (by decide : 0 + 0 ≤ _)⟩)
  dsimp only [Pt.U, Pt.locs, Pt.cells, Pt.slots] at X1 l1 y1 z1 st1 hQ1
  subst l1 y1 z1
  obtain ⟨rfl, N1q, e1⟩ := hQ1
  have N1 := Fr.app N0 N1q
  replace X1 : Stand p l e room_1 s m _ below meth c T1 _ 0 0 := X1
  refine own_go st1 ?_
  show WP p e below _ (T1.setTop (mkF m 8 #[.val (.long q1), .second, .val (.long q2), .second, .val (.int p3), .unset, .unset, .unset] [(.long (f1 q1 q2 p3 (0 : Int32)))]))
  generalize he2 : (f1 q1 q2 p3 (0 : Int32)) = vj2
  show WP p e below _ (T1.setTop (mkF m 8 #[.val (.long q1), .second, .val (.long q2), .second, .val (.int p3), .unset, .unset, .unset] [(.long vj2)]))
  refine own_go (fun t_ k => XS.lloadN X1.here hx rfl (hb hby at_8) rfl k) ?_
  show WP p e below _ (T1.setTop (mkF m 9 #[.val (.long q1), .second, .val (.long q2), .second, .val (.int p3), .unset, .unset, .unset] [(.long q1), (.long vj2)]))
  refine own_go (fun t_ k => XS.lloadN X1.here hx rfl (hb hby at_9) rfl k) ?_
  show WP p e below _ (T1.setTop (mkF m 10 #[.val (.long q1), .second, .val (.long q2), .second, .val (.int p3), .unset, .unset, .unset] [(.long q2), (.long q1), (.long vj2)]))
  refine own_go (fun t_ k => XS.iload X1.here hx rfl (hb hby at_10) rfl k) ?_
  show WP p e below _ (T1.setTop (mkF m 12 #[.val (.long q1), .second, .val (.long q2), .second, .val (.int p3), .unset, .unset, .unset] [(.int p3), (.long q2), (.long q1), (.long vj2)]))
  refine own_go (fun t_ k => XS.iconst X1.here hx rfl (hb hby at_12) k) ?_
  show WP p e below _ (T1.setTop (mkF m 13 #[.val (.long q1), .second, .val (.long q2), .second, .val (.int p3), .unset, .unset, .unset] [(.int (1 : Int32)), (.int p3), (.long q2), (.long q1), (.long vj2)]))
  obtain ⟨_, _, ⟨T3, L3, k3, n3⟩, -, X3, ⟨Lc3, hQ3, l3, y3, z3⟩, st3⟩ := Jvm.LawKit.callS X1 hx (y := (⟨"com/example/bittern/bittern/DigitsAllDigitsPinLaw", "octet", "(JJII)J"⟩ : MethodName)) hown (mvT hZ (hw _ (List.mem_of_getElem? (i := 0) rfl))) (mvT hZ (hw _ (List.mem_of_getElem? (i := 1) rfl))) (mvT hZ (hw _ (List.mem_of_getElem? (i := 2) rfl))) (mvT hZ (hw _ (List.mem_of_getElem? (i := 3) rfl))) (by decide) (backOf (W := 2) (rm1 l Z a0 hw [] q1 q2 p3 (1 : Int32) h0 n0) hZ (hw _ (List.mem_of_getElem? (i := 3) rfl)) (hw _ (List.mem_of_getElem? (i := 2) rfl)) (by decide) (by decide)) (g := (mkF m 13 #[.val (.long q1), .second, .val (.long q2), .second, .val (.int p3), .unset, .unset, .unset] [(.int (1 : Int32)), (.int p3), (.long q2), (.long q1), (.long vj2)])) rfl (by rw [hml]; rfl) (argsL := [(.long q1), (.long q2), (.int p3), (.int (1 : Int32))]) (rest := [(.long vj2)]) (lenOf pd_0 rfl) rfl (by show 2 * 0 + _ ≤ _; exact Nat.le_of_eq rfl) (hb hby at_13) (fun _ _ => ⟨rfl, e1, (by decide : 0 + 0 ≤ _), (by decide : 0 + 0 ≤ _)⟩)
  dsimp only [Pt.U, Pt.locs, Pt.cells, Pt.slots] at X3 l3 y3 z3 st3 hQ3
  subst l3 y3 z3
  obtain ⟨rfl, N3q, e3⟩ := hQ3
  have N3 := Fr.app N1 N3q
  replace X3 : Stand p l e room_1 s m _ below meth c T3 _ 0 0 := X3
  refine own_go st3 ?_
  show WP p e below _ (T3.setTop (mkF m 16 #[.val (.long q1), .second, .val (.long q2), .second, .val (.int p3), .unset, .unset, .unset] [(.long (f1 q1 q2 p3 (1 : Int32))), (.long vj2)]))
  generalize he4 : (f1 q1 q2 p3 (1 : Int32)) = vj4
  show WP p e below _ (T3.setTop (mkF m 16 #[.val (.long q1), .second, .val (.long q2), .second, .val (.int p3), .unset, .unset, .unset] [(.long vj4), (.long vj2)]))
  refine own_go (fun t_ k => XS.bipush X3.here hx rfl (hb hby at_16) k) ?_
  show WP p e below _ (T3.setTop (mkF m 18 #[.val (.long q1), .second, .val (.long q2), .second, .val (.int p3), .unset, .unset, .unset] [(.int (8 : Int32)), (.long vj4), (.long vj2)]))
  refine own_go (fun t_ k => XS.lshl X3.here hx rfl (hb hby at_18) rfl k) ?_
  show WP p e below _ (T3.setTop (mkF m 19 #[.val (.long q1), .second, .val (.long q2), .second, .val (.int p3), .unset, .unset, .unset] [(.long (vj4 <<< ((8 : Int32) &&& 0x3f).toInt64)), (.long vj2)]))
  refine own_go (fun t_ k => XS.lor X3.here hx rfl (hb hby at_19) rfl k) ?_
  show WP p e below _ (T3.setTop (mkF m 20 #[.val (.long q1), .second, .val (.long q2), .second, .val (.int p3), .unset, .unset, .unset] [(.long (vj2 ||| (vj4 <<< ((8 : Int32) &&& 0x3f).toInt64)))]))
  refine own_go (fun t_ k => XS.lloadN X3.here hx rfl (hb hby at_20) rfl k) ?_
  show WP p e below _ (T3.setTop (mkF m 21 #[.val (.long q1), .second, .val (.long q2), .second, .val (.int p3), .unset, .unset, .unset] [(.long q1), (.long (vj2 ||| (vj4 <<< ((8 : Int32) &&& 0x3f).toInt64)))]))
  refine own_go (fun t_ k => XS.lloadN X3.here hx rfl (hb hby at_21) rfl k) ?_
  show WP p e below _ (T3.setTop (mkF m 22 #[.val (.long q1), .second, .val (.long q2), .second, .val (.int p3), .unset, .unset, .unset] [(.long q2), (.long q1), (.long (vj2 ||| (vj4 <<< ((8 : Int32) &&& 0x3f).toInt64)))]))
  refine own_go (fun t_ k => XS.iload X3.here hx rfl (hb hby at_22) rfl k) ?_
  show WP p e below _ (T3.setTop (mkF m 24 #[.val (.long q1), .second, .val (.long q2), .second, .val (.int p3), .unset, .unset, .unset] [(.int p3), (.long q2), (.long q1), (.long (vj2 ||| (vj4 <<< ((8 : Int32) &&& 0x3f).toInt64)))]))
  refine own_go (fun t_ k => XS.iconst X3.here hx rfl (hb hby at_24) k) ?_
  show WP p e below _ (T3.setTop (mkF m 25 #[.val (.long q1), .second, .val (.long q2), .second, .val (.int p3), .unset, .unset, .unset] [(.int (2 : Int32)), (.int p3), (.long q2), (.long q1), (.long (vj2 ||| (vj4 <<< ((8 : Int32) &&& 0x3f).toInt64)))]))
  obtain ⟨_, _, ⟨T5, L5, k5, n5⟩, -, X5, ⟨Lc5, hQ5, l5, y5, z5⟩, st5⟩ := Jvm.LawKit.callS X3 hx (y := (⟨"com/example/bittern/bittern/DigitsAllDigitsPinLaw", "octet", "(JJII)J"⟩ : MethodName)) hown (mvT hZ (hw _ (List.mem_of_getElem? (i := 0) rfl))) (mvT hZ (hw _ (List.mem_of_getElem? (i := 1) rfl))) (mvT hZ (hw _ (List.mem_of_getElem? (i := 2) rfl))) (mvT hZ (hw _ (List.mem_of_getElem? (i := 3) rfl))) (by decide) (backOf (W := 2) (rm1 l Z a0 hw [] q1 q2 p3 (2 : Int32) h0 n0) hZ (hw _ (List.mem_of_getElem? (i := 3) rfl)) (hw _ (List.mem_of_getElem? (i := 2) rfl)) (by decide) (by decide)) (g := (mkF m 25 #[.val (.long q1), .second, .val (.long q2), .second, .val (.int p3), .unset, .unset, .unset] [(.int (2 : Int32)), (.int p3), (.long q2), (.long q1), (.long (vj2 ||| (vj4 <<< ((8 : Int32) &&& 0x3f).toInt64)))])) rfl (by rw [hml]; rfl) (argsL := [(.long q1), (.long q2), (.int p3), (.int (2 : Int32))]) (rest := [(.long (vj2 ||| (vj4 <<< ((8 : Int32) &&& 0x3f).toInt64)))]) (lenOf pd_0 rfl) rfl (by show 2 * 0 + _ ≤ _; exact Nat.le_of_eq rfl) (hb hby at_25) (fun _ _ => ⟨rfl, e3, (by decide : 0 + 0 ≤ _), (by decide : 0 + 0 ≤ _)⟩)
  dsimp only [Pt.U, Pt.locs, Pt.cells, Pt.slots] at X5 l5 y5 z5 st5 hQ5
  subst l5 y5 z5
  obtain ⟨rfl, N5q, e5⟩ := hQ5
  have N5 := Fr.app N3 N5q
  replace X5 : Stand p l e room_1 s m _ below meth c T5 _ 0 0 := X5
  refine own_go st5 ?_
  show WP p e below _ (T5.setTop (mkF m 28 #[.val (.long q1), .second, .val (.long q2), .second, .val (.int p3), .unset, .unset, .unset] [(.long (f1 q1 q2 p3 (2 : Int32))), (.long (vj2 ||| (vj4 <<< ((8 : Int32) &&& 0x3f).toInt64)))]))
  generalize he6 : (f1 q1 q2 p3 (2 : Int32)) = vj6
  show WP p e below _ (T5.setTop (mkF m 28 #[.val (.long q1), .second, .val (.long q2), .second, .val (.int p3), .unset, .unset, .unset] [(.long vj6), (.long (vj2 ||| (vj4 <<< ((8 : Int32) &&& 0x3f).toInt64)))]))
  refine own_go (fun t_ k => XS.bipush X5.here hx rfl (hb hby at_28) k) ?_
  show WP p e below _ (T5.setTop (mkF m 30 #[.val (.long q1), .second, .val (.long q2), .second, .val (.int p3), .unset, .unset, .unset] [(.int (16 : Int32)), (.long vj6), (.long (vj2 ||| (vj4 <<< ((8 : Int32) &&& 0x3f).toInt64)))]))
  refine own_go (fun t_ k => XS.lshl X5.here hx rfl (hb hby at_30) rfl k) ?_
  show WP p e below _ (T5.setTop (mkF m 31 #[.val (.long q1), .second, .val (.long q2), .second, .val (.int p3), .unset, .unset, .unset] [(.long (vj6 <<< ((16 : Int32) &&& 0x3f).toInt64)), (.long (vj2 ||| (vj4 <<< ((8 : Int32) &&& 0x3f).toInt64)))]))
  refine own_go (fun t_ k => XS.lor X5.here hx rfl (hb hby at_31) rfl k) ?_
  show WP p e below _ (T5.setTop (mkF m 32 #[.val (.long q1), .second, .val (.long q2), .second, .val (.int p3), .unset, .unset, .unset] [(.long ((vj2 ||| (vj4 <<< ((8 : Int32) &&& 0x3f).toInt64)) ||| (vj6 <<< ((16 : Int32) &&& 0x3f).toInt64)))]))
  refine own_go (fun t_ k => XS.lloadN X5.here hx rfl (hb hby at_32) rfl k) ?_
  show WP p e below _ (T5.setTop (mkF m 33 #[.val (.long q1), .second, .val (.long q2), .second, .val (.int p3), .unset, .unset, .unset] [(.long q1), (.long ((vj2 ||| (vj4 <<< ((8 : Int32) &&& 0x3f).toInt64)) ||| (vj6 <<< ((16 : Int32) &&& 0x3f).toInt64)))]))
  refine own_go (fun t_ k => XS.lloadN X5.here hx rfl (hb hby at_33) rfl k) ?_
  show WP p e below _ (T5.setTop (mkF m 34 #[.val (.long q1), .second, .val (.long q2), .second, .val (.int p3), .unset, .unset, .unset] [(.long q2), (.long q1), (.long ((vj2 ||| (vj4 <<< ((8 : Int32) &&& 0x3f).toInt64)) ||| (vj6 <<< ((16 : Int32) &&& 0x3f).toInt64)))]))
  refine own_go (fun t_ k => XS.iload X5.here hx rfl (hb hby at_34) rfl k) ?_
  show WP p e below _ (T5.setTop (mkF m 36 #[.val (.long q1), .second, .val (.long q2), .second, .val (.int p3), .unset, .unset, .unset] [(.int p3), (.long q2), (.long q1), (.long ((vj2 ||| (vj4 <<< ((8 : Int32) &&& 0x3f).toInt64)) ||| (vj6 <<< ((16 : Int32) &&& 0x3f).toInt64)))]))
  refine own_go (fun t_ k => XS.iconst X5.here hx rfl (hb hby at_36) k) ?_
  show WP p e below _ (T5.setTop (mkF m 37 #[.val (.long q1), .second, .val (.long q2), .second, .val (.int p3), .unset, .unset, .unset] [(.int (3 : Int32)), (.int p3), (.long q2), (.long q1), (.long ((vj2 ||| (vj4 <<< ((8 : Int32) &&& 0x3f).toInt64)) ||| (vj6 <<< ((16 : Int32) &&& 0x3f).toInt64)))]))
  obtain ⟨_, _, ⟨T7, L7, k7, n7⟩, -, X7, ⟨Lc7, hQ7, l7, y7, z7⟩, st7⟩ := Jvm.LawKit.callS X5 hx (y := (⟨"com/example/bittern/bittern/DigitsAllDigitsPinLaw", "octet", "(JJII)J"⟩ : MethodName)) hown (mvT hZ (hw _ (List.mem_of_getElem? (i := 0) rfl))) (mvT hZ (hw _ (List.mem_of_getElem? (i := 1) rfl))) (mvT hZ (hw _ (List.mem_of_getElem? (i := 2) rfl))) (mvT hZ (hw _ (List.mem_of_getElem? (i := 3) rfl))) (by decide) (backOf (W := 2) (rm1 l Z a0 hw [] q1 q2 p3 (3 : Int32) h0 n0) hZ (hw _ (List.mem_of_getElem? (i := 3) rfl)) (hw _ (List.mem_of_getElem? (i := 2) rfl)) (by decide) (by decide)) (g := (mkF m 37 #[.val (.long q1), .second, .val (.long q2), .second, .val (.int p3), .unset, .unset, .unset] [(.int (3 : Int32)), (.int p3), (.long q2), (.long q1), (.long ((vj2 ||| (vj4 <<< ((8 : Int32) &&& 0x3f).toInt64)) ||| (vj6 <<< ((16 : Int32) &&& 0x3f).toInt64)))])) rfl (by rw [hml]; rfl) (argsL := [(.long q1), (.long q2), (.int p3), (.int (3 : Int32))]) (rest := [(.long ((vj2 ||| (vj4 <<< ((8 : Int32) &&& 0x3f).toInt64)) ||| (vj6 <<< ((16 : Int32) &&& 0x3f).toInt64)))]) (lenOf pd_0 rfl) rfl (by show 2 * 0 + _ ≤ _; exact Nat.le_of_eq rfl) (hb hby at_37) (fun _ _ => ⟨rfl, e5, (by decide : 0 + 0 ≤ _), (by decide : 0 + 0 ≤ _)⟩)
  dsimp only [Pt.U, Pt.locs, Pt.cells, Pt.slots] at X7 l7 y7 z7 st7 hQ7
  subst l7 y7 z7
  obtain ⟨rfl, N7q, e7⟩ := hQ7
  have N7 := Fr.app N5 N7q
  replace X7 : Stand p l e room_1 s m _ below meth c T7 _ 0 0 := X7
  refine own_go st7 ?_
  show WP p e below _ (T7.setTop (mkF m 40 #[.val (.long q1), .second, .val (.long q2), .second, .val (.int p3), .unset, .unset, .unset] [(.long (f1 q1 q2 p3 (3 : Int32))), (.long ((vj2 ||| (vj4 <<< ((8 : Int32) &&& 0x3f).toInt64)) ||| (vj6 <<< ((16 : Int32) &&& 0x3f).toInt64)))]))
  generalize he8 : (f1 q1 q2 p3 (3 : Int32)) = vj8
  show WP p e below _ (T7.setTop (mkF m 40 #[.val (.long q1), .second, .val (.long q2), .second, .val (.int p3), .unset, .unset, .unset] [(.long vj8), (.long ((vj2 ||| (vj4 <<< ((8 : Int32) &&& 0x3f).toInt64)) ||| (vj6 <<< ((16 : Int32) &&& 0x3f).toInt64)))]))
  refine own_go (fun t_ k => XS.bipush X7.here hx rfl (hb hby at_40) k) ?_
  show WP p e below _ (T7.setTop (mkF m 42 #[.val (.long q1), .second, .val (.long q2), .second, .val (.int p3), .unset, .unset, .unset] [(.int (24 : Int32)), (.long vj8), (.long ((vj2 ||| (vj4 <<< ((8 : Int32) &&& 0x3f).toInt64)) ||| (vj6 <<< ((16 : Int32) &&& 0x3f).toInt64)))]))
  refine own_go (fun t_ k => XS.lshl X7.here hx rfl (hb hby at_42) rfl k) ?_
  show WP p e below _ (T7.setTop (mkF m 43 #[.val (.long q1), .second, .val (.long q2), .second, .val (.int p3), .unset, .unset, .unset] [(.long (vj8 <<< ((24 : Int32) &&& 0x3f).toInt64)), (.long ((vj2 ||| (vj4 <<< ((8 : Int32) &&& 0x3f).toInt64)) ||| (vj6 <<< ((16 : Int32) &&& 0x3f).toInt64)))]))
  refine own_go (fun t_ k => XS.lor X7.here hx rfl (hb hby at_43) rfl k) ?_
  show WP p e below _ (T7.setTop (mkF m 44 #[.val (.long q1), .second, .val (.long q2), .second, .val (.int p3), .unset, .unset, .unset] [(.long (((vj2 ||| (vj4 <<< ((8 : Int32) &&& 0x3f).toInt64)) ||| (vj6 <<< ((16 : Int32) &&& 0x3f).toInt64)) ||| (vj8 <<< ((24 : Int32) &&& 0x3f).toInt64)))]))
  refine own_go (fun t_ k => XS.lloadN X7.here hx rfl (hb hby at_44) rfl k) ?_
  show WP p e below _ (T7.setTop (mkF m 45 #[.val (.long q1), .second, .val (.long q2), .second, .val (.int p3), .unset, .unset, .unset] [(.long q1), (.long (((vj2 ||| (vj4 <<< ((8 : Int32) &&& 0x3f).toInt64)) ||| (vj6 <<< ((16 : Int32) &&& 0x3f).toInt64)) ||| (vj8 <<< ((24 : Int32) &&& 0x3f).toInt64)))]))
  refine own_go (fun t_ k => XS.lloadN X7.here hx rfl (hb hby at_45) rfl k) ?_
  show WP p e below _ (T7.setTop (mkF m 46 #[.val (.long q1), .second, .val (.long q2), .second, .val (.int p3), .unset, .unset, .unset] [(.long q2), (.long q1), (.long (((vj2 ||| (vj4 <<< ((8 : Int32) &&& 0x3f).toInt64)) ||| (vj6 <<< ((16 : Int32) &&& 0x3f).toInt64)) ||| (vj8 <<< ((24 : Int32) &&& 0x3f).toInt64)))]))
  refine own_go (fun t_ k => XS.iload X7.here hx rfl (hb hby at_46) rfl k) ?_
  show WP p e below _ (T7.setTop (mkF m 48 #[.val (.long q1), .second, .val (.long q2), .second, .val (.int p3), .unset, .unset, .unset] [(.int p3), (.long q2), (.long q1), (.long (((vj2 ||| (vj4 <<< ((8 : Int32) &&& 0x3f).toInt64)) ||| (vj6 <<< ((16 : Int32) &&& 0x3f).toInt64)) ||| (vj8 <<< ((24 : Int32) &&& 0x3f).toInt64)))]))
  refine own_go (fun t_ k => XS.iconst X7.here hx rfl (hb hby at_48) k) ?_
  show WP p e below _ (T7.setTop (mkF m 49 #[.val (.long q1), .second, .val (.long q2), .second, .val (.int p3), .unset, .unset, .unset] [(.int (4 : Int32)), (.int p3), (.long q2), (.long q1), (.long (((vj2 ||| (vj4 <<< ((8 : Int32) &&& 0x3f).toInt64)) ||| (vj6 <<< ((16 : Int32) &&& 0x3f).toInt64)) ||| (vj8 <<< ((24 : Int32) &&& 0x3f).toInt64)))]))
  obtain ⟨_, _, ⟨T9, L9, k9, n9⟩, -, X9, ⟨Lc9, hQ9, l9, y9, z9⟩, st9⟩ := Jvm.LawKit.callS X7 hx (y := (⟨"com/example/bittern/bittern/DigitsAllDigitsPinLaw", "octet", "(JJII)J"⟩ : MethodName)) hown (mvT hZ (hw _ (List.mem_of_getElem? (i := 0) rfl))) (mvT hZ (hw _ (List.mem_of_getElem? (i := 1) rfl))) (mvT hZ (hw _ (List.mem_of_getElem? (i := 2) rfl))) (mvT hZ (hw _ (List.mem_of_getElem? (i := 3) rfl))) (by decide) (backOf (W := 2) (rm1 l Z a0 hw [] q1 q2 p3 (4 : Int32) h0 n0) hZ (hw _ (List.mem_of_getElem? (i := 3) rfl)) (hw _ (List.mem_of_getElem? (i := 2) rfl)) (by decide) (by decide)) (g := (mkF m 49 #[.val (.long q1), .second, .val (.long q2), .second, .val (.int p3), .unset, .unset, .unset] [(.int (4 : Int32)), (.int p3), (.long q2), (.long q1), (.long (((vj2 ||| (vj4 <<< ((8 : Int32) &&& 0x3f).toInt64)) ||| (vj6 <<< ((16 : Int32) &&& 0x3f).toInt64)) ||| (vj8 <<< ((24 : Int32) &&& 0x3f).toInt64)))])) rfl (by rw [hml]; rfl) (argsL := [(.long q1), (.long q2), (.int p3), (.int (4 : Int32))]) (rest := [(.long (((vj2 ||| (vj4 <<< ((8 : Int32) &&& 0x3f).toInt64)) ||| (vj6 <<< ((16 : Int32) &&& 0x3f).toInt64)) ||| (vj8 <<< ((24 : Int32) &&& 0x3f).toInt64)))]) (lenOf pd_0 rfl) rfl (by show 2 * 0 + _ ≤ _; exact Nat.le_of_eq rfl) (hb hby at_49) (fun _ _ => ⟨rfl, e7, (by decide : 0 + 0 ≤ _), (by decide : 0 + 0 ≤ _)⟩)
  dsimp only [Pt.U, Pt.locs, Pt.cells, Pt.slots] at X9 l9 y9 z9 st9 hQ9
  subst l9 y9 z9
  obtain ⟨rfl, N9q, e9⟩ := hQ9
  have N9 := Fr.app N7 N9q
  replace X9 : Stand p l e room_1 s m _ below meth c T9 _ 0 0 := X9
  refine own_go st9 ?_
  show WP p e below _ (T9.setTop (mkF m 52 #[.val (.long q1), .second, .val (.long q2), .second, .val (.int p3), .unset, .unset, .unset] [(.long (f1 q1 q2 p3 (4 : Int32))), (.long (((vj2 ||| (vj4 <<< ((8 : Int32) &&& 0x3f).toInt64)) ||| (vj6 <<< ((16 : Int32) &&& 0x3f).toInt64)) ||| (vj8 <<< ((24 : Int32) &&& 0x3f).toInt64)))]))
  generalize he10 : (f1 q1 q2 p3 (4 : Int32)) = vj10
  show WP p e below _ (T9.setTop (mkF m 52 #[.val (.long q1), .second, .val (.long q2), .second, .val (.int p3), .unset, .unset, .unset] [(.long vj10), (.long (((vj2 ||| (vj4 <<< ((8 : Int32) &&& 0x3f).toInt64)) ||| (vj6 <<< ((16 : Int32) &&& 0x3f).toInt64)) ||| (vj8 <<< ((24 : Int32) &&& 0x3f).toInt64)))]))
  refine own_go (fun t_ k => XS.bipush X9.here hx rfl (hb hby at_52) k) ?_
  show WP p e below _ (T9.setTop (mkF m 54 #[.val (.long q1), .second, .val (.long q2), .second, .val (.int p3), .unset, .unset, .unset] [(.int (32 : Int32)), (.long vj10), (.long (((vj2 ||| (vj4 <<< ((8 : Int32) &&& 0x3f).toInt64)) ||| (vj6 <<< ((16 : Int32) &&& 0x3f).toInt64)) ||| (vj8 <<< ((24 : Int32) &&& 0x3f).toInt64)))]))
  refine own_go (fun t_ k => XS.lshl X9.here hx rfl (hb hby at_54) rfl k) ?_
  show WP p e below _ (T9.setTop (mkF m 55 #[.val (.long q1), .second, .val (.long q2), .second, .val (.int p3), .unset, .unset, .unset] [(.long (vj10 <<< ((32 : Int32) &&& 0x3f).toInt64)), (.long (((vj2 ||| (vj4 <<< ((8 : Int32) &&& 0x3f).toInt64)) ||| (vj6 <<< ((16 : Int32) &&& 0x3f).toInt64)) ||| (vj8 <<< ((24 : Int32) &&& 0x3f).toInt64)))]))
  refine own_go (fun t_ k => XS.lor X9.here hx rfl (hb hby at_55) rfl k) ?_
  show WP p e below _ (T9.setTop (mkF m 56 #[.val (.long q1), .second, .val (.long q2), .second, .val (.int p3), .unset, .unset, .unset] [(.long ((((vj2 ||| (vj4 <<< ((8 : Int32) &&& 0x3f).toInt64)) ||| (vj6 <<< ((16 : Int32) &&& 0x3f).toInt64)) ||| (vj8 <<< ((24 : Int32) &&& 0x3f).toInt64)) ||| (vj10 <<< ((32 : Int32) &&& 0x3f).toInt64)))]))
  refine own_go (fun t_ k => XS.lloadN X9.here hx rfl (hb hby at_56) rfl k) ?_
  show WP p e below _ (T9.setTop (mkF m 57 #[.val (.long q1), .second, .val (.long q2), .second, .val (.int p3), .unset, .unset, .unset] [(.long q1), (.long ((((vj2 ||| (vj4 <<< ((8 : Int32) &&& 0x3f).toInt64)) ||| (vj6 <<< ((16 : Int32) &&& 0x3f).toInt64)) ||| (vj8 <<< ((24 : Int32) &&& 0x3f).toInt64)) ||| (vj10 <<< ((32 : Int32) &&& 0x3f).toInt64)))]))
  refine own_go (fun t_ k => XS.lloadN X9.here hx rfl (hb hby at_57) rfl k) ?_
  show WP p e below _ (T9.setTop (mkF m 58 #[.val (.long q1), .second, .val (.long q2), .second, .val (.int p3), .unset, .unset, .unset] [(.long q2), (.long q1), (.long ((((vj2 ||| (vj4 <<< ((8 : Int32) &&& 0x3f).toInt64)) ||| (vj6 <<< ((16 : Int32) &&& 0x3f).toInt64)) ||| (vj8 <<< ((24 : Int32) &&& 0x3f).toInt64)) ||| (vj10 <<< ((32 : Int32) &&& 0x3f).toInt64)))]))
  refine own_go (fun t_ k => XS.iload X9.here hx rfl (hb hby at_58) rfl k) ?_
  show WP p e below _ (T9.setTop (mkF m 60 #[.val (.long q1), .second, .val (.long q2), .second, .val (.int p3), .unset, .unset, .unset] [(.int p3), (.long q2), (.long q1), (.long ((((vj2 ||| (vj4 <<< ((8 : Int32) &&& 0x3f).toInt64)) ||| (vj6 <<< ((16 : Int32) &&& 0x3f).toInt64)) ||| (vj8 <<< ((24 : Int32) &&& 0x3f).toInt64)) ||| (vj10 <<< ((32 : Int32) &&& 0x3f).toInt64)))]))
  refine own_go (fun t_ k => XS.iconst X9.here hx rfl (hb hby at_60) k) ?_
  show WP p e below _ (T9.setTop (mkF m 61 #[.val (.long q1), .second, .val (.long q2), .second, .val (.int p3), .unset, .unset, .unset] [(.int (5 : Int32)), (.int p3), (.long q2), (.long q1), (.long ((((vj2 ||| (vj4 <<< ((8 : Int32) &&& 0x3f).toInt64)) ||| (vj6 <<< ((16 : Int32) &&& 0x3f).toInt64)) ||| (vj8 <<< ((24 : Int32) &&& 0x3f).toInt64)) ||| (vj10 <<< ((32 : Int32) &&& 0x3f).toInt64)))]))
  obtain ⟨_, _, ⟨T11, L11, k11, n11⟩, -, X11, ⟨Lc11, hQ11, l11, y11, z11⟩, st11⟩ := Jvm.LawKit.callS X9 hx (y := (⟨"com/example/bittern/bittern/DigitsAllDigitsPinLaw", "octet", "(JJII)J"⟩ : MethodName)) hown (mvT hZ (hw _ (List.mem_of_getElem? (i := 0) rfl))) (mvT hZ (hw _ (List.mem_of_getElem? (i := 1) rfl))) (mvT hZ (hw _ (List.mem_of_getElem? (i := 2) rfl))) (mvT hZ (hw _ (List.mem_of_getElem? (i := 3) rfl))) (by decide) (backOf (W := 2) (rm1 l Z a0 hw [] q1 q2 p3 (5 : Int32) h0 n0) hZ (hw _ (List.mem_of_getElem? (i := 3) rfl)) (hw _ (List.mem_of_getElem? (i := 2) rfl)) (by decide) (by decide)) (g := (mkF m 61 #[.val (.long q1), .second, .val (.long q2), .second, .val (.int p3), .unset, .unset, .unset] [(.int (5 : Int32)), (.int p3), (.long q2), (.long q1), (.long ((((vj2 ||| (vj4 <<< ((8 : Int32) &&& 0x3f).toInt64)) ||| (vj6 <<< ((16 : Int32) &&& 0x3f).toInt64)) ||| (vj8 <<< ((24 : Int32) &&& 0x3f).toInt64)) ||| (vj10 <<< ((32 : Int32) &&& 0x3f).toInt64)))])) rfl (by rw [hml]; rfl) (argsL := [(.long q1), (.long q2), (.int p3), (.int (5 : Int32))]) (rest := [(.long ((((vj2 ||| (vj4 <<< ((8 : Int32) &&& 0x3f).toInt64)) ||| (vj6 <<< ((16 : Int32) &&& 0x3f).toInt64)) ||| (vj8 <<< ((24 : Int32) &&& 0x3f).toInt64)) ||| (vj10 <<< ((32 : Int32) &&& 0x3f).toInt64)))]) (lenOf pd_0 rfl) rfl (by show 2 * 0 + _ ≤ _; exact Nat.le_of_eq rfl) (hb hby at_61) (fun _ _ => ⟨rfl, e9, (by decide : 0 + 0 ≤ _), (by decide : 0 + 0 ≤ _)⟩)
  dsimp only [Pt.U, Pt.locs, Pt.cells, Pt.slots] at X11 l11 y11 z11 st11 hQ11
  subst l11 y11 z11
  obtain ⟨rfl, N11q, e11⟩ := hQ11
  have N11 := Fr.app N9 N11q
  replace X11 : Stand p l e room_1 s m _ below meth c T11 _ 0 0 := X11
  refine own_go st11 ?_
  show WP p e below _ (T11.setTop (mkF m 64 #[.val (.long q1), .second, .val (.long q2), .second, .val (.int p3), .unset, .unset, .unset] [(.long (f1 q1 q2 p3 (5 : Int32))), (.long ((((vj2 ||| (vj4 <<< ((8 : Int32) &&& 0x3f).toInt64)) ||| (vj6 <<< ((16 : Int32) &&& 0x3f).toInt64)) ||| (vj8 <<< ((24 : Int32) &&& 0x3f).toInt64)) ||| (vj10 <<< ((32 : Int32) &&& 0x3f).toInt64)))]))
  generalize he12 : (f1 q1 q2 p3 (5 : Int32)) = vj12
  show WP p e below _ (T11.setTop (mkF m 64 #[.val (.long q1), .second, .val (.long q2), .second, .val (.int p3), .unset, .unset, .unset] [(.long vj12), (.long ((((vj2 ||| (vj4 <<< ((8 : Int32) &&& 0x3f).toInt64)) ||| (vj6 <<< ((16 : Int32) &&& 0x3f).toInt64)) ||| (vj8 <<< ((24 : Int32) &&& 0x3f).toInt64)) ||| (vj10 <<< ((32 : Int32) &&& 0x3f).toInt64)))]))
  refine own_go (fun t_ k => XS.bipush X11.here hx rfl (hb hby at_64) k) ?_
  show WP p e below _ (T11.setTop (mkF m 66 #[.val (.long q1), .second, .val (.long q2), .second, .val (.int p3), .unset, .unset, .unset] [(.int (40 : Int32)), (.long vj12), (.long ((((vj2 ||| (vj4 <<< ((8 : Int32) &&& 0x3f).toInt64)) ||| (vj6 <<< ((16 : Int32) &&& 0x3f).toInt64)) ||| (vj8 <<< ((24 : Int32) &&& 0x3f).toInt64)) ||| (vj10 <<< ((32 : Int32) &&& 0x3f).toInt64)))]))
  refine own_go (fun t_ k => XS.lshl X11.here hx rfl (hb hby at_66) rfl k) ?_
  show WP p e below _ (T11.setTop (mkF m 67 #[.val (.long q1), .second, .val (.long q2), .second, .val (.int p3), .unset, .unset, .unset] [(.long (vj12 <<< ((40 : Int32) &&& 0x3f).toInt64)), (.long ((((vj2 ||| (vj4 <<< ((8 : Int32) &&& 0x3f).toInt64)) ||| (vj6 <<< ((16 : Int32) &&& 0x3f).toInt64)) ||| (vj8 <<< ((24 : Int32) &&& 0x3f).toInt64)) ||| (vj10 <<< ((32 : Int32) &&& 0x3f).toInt64)))]))
  refine own_go (fun t_ k => XS.lor X11.here hx rfl (hb hby at_67) rfl k) ?_
  show WP p e below _ (T11.setTop (mkF m 68 #[.val (.long q1), .second, .val (.long q2), .second, .val (.int p3), .unset, .unset, .unset] [(.long (((((vj2 ||| (vj4 <<< ((8 : Int32) &&& 0x3f).toInt64)) ||| (vj6 <<< ((16 : Int32) &&& 0x3f).toInt64)) ||| (vj8 <<< ((24 : Int32) &&& 0x3f).toInt64)) ||| (vj10 <<< ((32 : Int32) &&& 0x3f).toInt64)) ||| (vj12 <<< ((40 : Int32) &&& 0x3f).toInt64)))]))
  refine own_go (fun t_ k => XS.lloadN X11.here hx rfl (hb hby at_68) rfl k) ?_
  show WP p e below _ (T11.setTop (mkF m 69 #[.val (.long q1), .second, .val (.long q2), .second, .val (.int p3), .unset, .unset, .unset] [(.long q1), (.long (((((vj2 ||| (vj4 <<< ((8 : Int32) &&& 0x3f).toInt64)) ||| (vj6 <<< ((16 : Int32) &&& 0x3f).toInt64)) ||| (vj8 <<< ((24 : Int32) &&& 0x3f).toInt64)) ||| (vj10 <<< ((32 : Int32) &&& 0x3f).toInt64)) ||| (vj12 <<< ((40 : Int32) &&& 0x3f).toInt64)))]))
  refine own_go (fun t_ k => XS.lloadN X11.here hx rfl (hb hby at_69) rfl k) ?_
  show WP p e below _ (T11.setTop (mkF m 70 #[.val (.long q1), .second, .val (.long q2), .second, .val (.int p3), .unset, .unset, .unset] [(.long q2), (.long q1), (.long (((((vj2 ||| (vj4 <<< ((8 : Int32) &&& 0x3f).toInt64)) ||| (vj6 <<< ((16 : Int32) &&& 0x3f).toInt64)) ||| (vj8 <<< ((24 : Int32) &&& 0x3f).toInt64)) ||| (vj10 <<< ((32 : Int32) &&& 0x3f).toInt64)) ||| (vj12 <<< ((40 : Int32) &&& 0x3f).toInt64)))]))
  refine own_go (fun t_ k => XS.iload X11.here hx rfl (hb hby at_70) rfl k) ?_
  show WP p e below _ (T11.setTop (mkF m 72 #[.val (.long q1), .second, .val (.long q2), .second, .val (.int p3), .unset, .unset, .unset] [(.int p3), (.long q2), (.long q1), (.long (((((vj2 ||| (vj4 <<< ((8 : Int32) &&& 0x3f).toInt64)) ||| (vj6 <<< ((16 : Int32) &&& 0x3f).toInt64)) ||| (vj8 <<< ((24 : Int32) &&& 0x3f).toInt64)) ||| (vj10 <<< ((32 : Int32) &&& 0x3f).toInt64)) ||| (vj12 <<< ((40 : Int32) &&& 0x3f).toInt64)))]))
  refine own_go (fun t_ k => XS.bipush X11.here hx rfl (hb hby at_72) k) ?_
  show WP p e below _ (T11.setTop (mkF m 74 #[.val (.long q1), .second, .val (.long q2), .second, .val (.int p3), .unset, .unset, .unset] [(.int (6 : Int32)), (.int p3), (.long q2), (.long q1), (.long (((((vj2 ||| (vj4 <<< ((8 : Int32) &&& 0x3f).toInt64)) ||| (vj6 <<< ((16 : Int32) &&& 0x3f).toInt64)) ||| (vj8 <<< ((24 : Int32) &&& 0x3f).toInt64)) ||| (vj10 <<< ((32 : Int32) &&& 0x3f).toInt64)) ||| (vj12 <<< ((40 : Int32) &&& 0x3f).toInt64)))]))
  obtain ⟨_, _, ⟨T13, L13, k13, n13⟩, -, X13, ⟨Lc13, hQ13, l13, y13, z13⟩, st13⟩ := Jvm.LawKit.callS X11 hx (y := (⟨"com/example/bittern/bittern/DigitsAllDigitsPinLaw", "octet", "(JJII)J"⟩ : MethodName)) hown (mvT hZ (hw _ (List.mem_of_getElem? (i := 0) rfl))) (mvT hZ (hw _ (List.mem_of_getElem? (i := 1) rfl))) (mvT hZ (hw _ (List.mem_of_getElem? (i := 2) rfl))) (mvT hZ (hw _ (List.mem_of_getElem? (i := 3) rfl))) (by decide) (backOf (W := 2) (rm1 l Z a0 hw [] q1 q2 p3 (6 : Int32) h0 n0) hZ (hw _ (List.mem_of_getElem? (i := 3) rfl)) (hw _ (List.mem_of_getElem? (i := 2) rfl)) (by decide) (by decide)) (g := (mkF m 74 #[.val (.long q1), .second, .val (.long q2), .second, .val (.int p3), .unset, .unset, .unset] [(.int (6 : Int32)), (.int p3), (.long q2), (.long q1), (.long (((((vj2 ||| (vj4 <<< ((8 : Int32) &&& 0x3f).toInt64)) ||| (vj6 <<< ((16 : Int32) &&& 0x3f).toInt64)) ||| (vj8 <<< ((24 : Int32) &&& 0x3f).toInt64)) ||| (vj10 <<< ((32 : Int32) &&& 0x3f).toInt64)) ||| (vj12 <<< ((40 : Int32) &&& 0x3f).toInt64)))])) rfl (by rw [hml]; rfl) (argsL := [(.long q1), (.long q2), (.int p3), (.int (6 : Int32))]) (rest := [(.long (((((vj2 ||| (vj4 <<< ((8 : Int32) &&& 0x3f).toInt64)) ||| (vj6 <<< ((16 : Int32) &&& 0x3f).toInt64)) ||| (vj8 <<< ((24 : Int32) &&& 0x3f).toInt64)) ||| (vj10 <<< ((32 : Int32) &&& 0x3f).toInt64)) ||| (vj12 <<< ((40 : Int32) &&& 0x3f).toInt64)))]) (lenOf pd_0 rfl) rfl (by show 2 * 0 + _ ≤ _; exact Nat.le_of_eq rfl) (hb hby at_74) (fun _ _ => ⟨rfl, e11, (by decide : 0 + 0 ≤ _), (by decide : 0 + 0 ≤ _)⟩)
  dsimp only [Pt.U, Pt.locs, Pt.cells, Pt.slots] at X13 l13 y13 z13 st13 hQ13
  subst l13 y13 z13
  obtain ⟨rfl, N13q, e13⟩ := hQ13
  have N13 := Fr.app N11 N13q
  replace X13 : Stand p l e room_1 s m _ below meth c T13 _ 0 0 := X13
  refine own_go st13 ?_
  show WP p e below _ (T13.setTop (mkF m 77 #[.val (.long q1), .second, .val (.long q2), .second, .val (.int p3), .unset, .unset, .unset] [(.long (f1 q1 q2 p3 (6 : Int32))), (.long (((((vj2 ||| (vj4 <<< ((8 : Int32) &&& 0x3f).toInt64)) ||| (vj6 <<< ((16 : Int32) &&& 0x3f).toInt64)) ||| (vj8 <<< ((24 : Int32) &&& 0x3f).toInt64)) ||| (vj10 <<< ((32 : Int32) &&& 0x3f).toInt64)) ||| (vj12 <<< ((40 : Int32) &&& 0x3f).toInt64)))]))
  generalize he14 : (f1 q1 q2 p3 (6 : Int32)) = vj14
  show WP p e below _ (T13.setTop (mkF m 77 #[.val (.long q1), .second, .val (.long q2), .second, .val (.int p3), .unset, .unset, .unset] [(.long vj14), (.long (((((vj2 ||| (vj4 <<< ((8 : Int32) &&& 0x3f).toInt64)) ||| (vj6 <<< ((16 : Int32) &&& 0x3f).toInt64)) ||| (vj8 <<< ((24 : Int32) &&& 0x3f).toInt64)) ||| (vj10 <<< ((32 : Int32) &&& 0x3f).toInt64)) ||| (vj12 <<< ((40 : Int32) &&& 0x3f).toInt64)))]))
  refine own_go (fun t_ k => XS.bipush X13.here hx rfl (hb hby at_77) k) ?_
  show WP p e below _ (T13.setTop (mkF m 79 #[.val (.long q1), .second, .val (.long q2), .second, .val (.int p3), .unset, .unset, .unset] [(.int (48 : Int32)), (.long vj14), (.long (((((vj2 ||| (vj4 <<< ((8 : Int32) &&& 0x3f).toInt64)) ||| (vj6 <<< ((16 : Int32) &&& 0x3f).toInt64)) ||| (vj8 <<< ((24 : Int32) &&& 0x3f).toInt64)) ||| (vj10 <<< ((32 : Int32) &&& 0x3f).toInt64)) ||| (vj12 <<< ((40 : Int32) &&& 0x3f).toInt64)))]))
  refine own_go (fun t_ k => XS.lshl X13.here hx rfl (hb hby at_79) rfl k) ?_
  show WP p e below _ (T13.setTop (mkF m 80 #[.val (.long q1), .second, .val (.long q2), .second, .val (.int p3), .unset, .unset, .unset] [(.long (vj14 <<< ((48 : Int32) &&& 0x3f).toInt64)), (.long (((((vj2 ||| (vj4 <<< ((8 : Int32) &&& 0x3f).toInt64)) ||| (vj6 <<< ((16 : Int32) &&& 0x3f).toInt64)) ||| (vj8 <<< ((24 : Int32) &&& 0x3f).toInt64)) ||| (vj10 <<< ((32 : Int32) &&& 0x3f).toInt64)) ||| (vj12 <<< ((40 : Int32) &&& 0x3f).toInt64)))]))
  refine own_go (fun t_ k => XS.lor X13.here hx rfl (hb hby at_80) rfl k) ?_
  show WP p e below _ (T13.setTop (mkF m 81 #[.val (.long q1), .second, .val (.long q2), .second, .val (.int p3), .unset, .unset, .unset] [(.long ((((((vj2 ||| (vj4 <<< ((8 : Int32) &&& 0x3f).toInt64)) ||| (vj6 <<< ((16 : Int32) &&& 0x3f).toInt64)) ||| (vj8 <<< ((24 : Int32) &&& 0x3f).toInt64)) ||| (vj10 <<< ((32 : Int32) &&& 0x3f).toInt64)) ||| (vj12 <<< ((40 : Int32) &&& 0x3f).toInt64)) ||| (vj14 <<< ((48 : Int32) &&& 0x3f).toInt64)))]))
  refine own_go (fun t_ k => XS.lloadN X13.here hx rfl (hb hby at_81) rfl k) ?_
  show WP p e below _ (T13.setTop (mkF m 82 #[.val (.long q1), .second, .val (.long q2), .second, .val (.int p3), .unset, .unset, .unset] [(.long q1), (.long ((((((vj2 ||| (vj4 <<< ((8 : Int32) &&& 0x3f).toInt64)) ||| (vj6 <<< ((16 : Int32) &&& 0x3f).toInt64)) ||| (vj8 <<< ((24 : Int32) &&& 0x3f).toInt64)) ||| (vj10 <<< ((32 : Int32) &&& 0x3f).toInt64)) ||| (vj12 <<< ((40 : Int32) &&& 0x3f).toInt64)) ||| (vj14 <<< ((48 : Int32) &&& 0x3f).toInt64)))]))
  refine own_go (fun t_ k => XS.lloadN X13.here hx rfl (hb hby at_82) rfl k) ?_
  show WP p e below _ (T13.setTop (mkF m 83 #[.val (.long q1), .second, .val (.long q2), .second, .val (.int p3), .unset, .unset, .unset] [(.long q2), (.long q1), (.long ((((((vj2 ||| (vj4 <<< ((8 : Int32) &&& 0x3f).toInt64)) ||| (vj6 <<< ((16 : Int32) &&& 0x3f).toInt64)) ||| (vj8 <<< ((24 : Int32) &&& 0x3f).toInt64)) ||| (vj10 <<< ((32 : Int32) &&& 0x3f).toInt64)) ||| (vj12 <<< ((40 : Int32) &&& 0x3f).toInt64)) ||| (vj14 <<< ((48 : Int32) &&& 0x3f).toInt64)))]))
  refine own_go (fun t_ k => XS.iload X13.here hx rfl (hb hby at_83) rfl k) ?_
  show WP p e below _ (T13.setTop (mkF m 85 #[.val (.long q1), .second, .val (.long q2), .second, .val (.int p3), .unset, .unset, .unset] [(.int p3), (.long q2), (.long q1), (.long ((((((vj2 ||| (vj4 <<< ((8 : Int32) &&& 0x3f).toInt64)) ||| (vj6 <<< ((16 : Int32) &&& 0x3f).toInt64)) ||| (vj8 <<< ((24 : Int32) &&& 0x3f).toInt64)) ||| (vj10 <<< ((32 : Int32) &&& 0x3f).toInt64)) ||| (vj12 <<< ((40 : Int32) &&& 0x3f).toInt64)) ||| (vj14 <<< ((48 : Int32) &&& 0x3f).toInt64)))]))
  refine own_go (fun t_ k => XS.bipush X13.here hx rfl (hb hby at_85) k) ?_
  show WP p e below _ (T13.setTop (mkF m 87 #[.val (.long q1), .second, .val (.long q2), .second, .val (.int p3), .unset, .unset, .unset] [(.int (7 : Int32)), (.int p3), (.long q2), (.long q1), (.long ((((((vj2 ||| (vj4 <<< ((8 : Int32) &&& 0x3f).toInt64)) ||| (vj6 <<< ((16 : Int32) &&& 0x3f).toInt64)) ||| (vj8 <<< ((24 : Int32) &&& 0x3f).toInt64)) ||| (vj10 <<< ((32 : Int32) &&& 0x3f).toInt64)) ||| (vj12 <<< ((40 : Int32) &&& 0x3f).toInt64)) ||| (vj14 <<< ((48 : Int32) &&& 0x3f).toInt64)))]))
  obtain ⟨_, _, ⟨T15, L15, k15, n15⟩, -, X15, ⟨Lc15, hQ15, l15, y15, z15⟩, st15⟩ := Jvm.LawKit.callS X13 hx (y := (⟨"com/example/bittern/bittern/DigitsAllDigitsPinLaw", "octet", "(JJII)J"⟩ : MethodName)) hown (mvT hZ (hw _ (List.mem_of_getElem? (i := 0) rfl))) (mvT hZ (hw _ (List.mem_of_getElem? (i := 1) rfl))) (mvT hZ (hw _ (List.mem_of_getElem? (i := 2) rfl))) (mvT hZ (hw _ (List.mem_of_getElem? (i := 3) rfl))) (by decide) (backOf (W := 2) (rm1 l Z a0 hw [] q1 q2 p3 (7 : Int32) h0 n0) hZ (hw _ (List.mem_of_getElem? (i := 3) rfl)) (hw _ (List.mem_of_getElem? (i := 2) rfl)) (by decide) (by decide)) (g := (mkF m 87 #[.val (.long q1), .second, .val (.long q2), .second, .val (.int p3), .unset, .unset, .unset] [(.int (7 : Int32)), (.int p3), (.long q2), (.long q1), (.long ((((((vj2 ||| (vj4 <<< ((8 : Int32) &&& 0x3f).toInt64)) ||| (vj6 <<< ((16 : Int32) &&& 0x3f).toInt64)) ||| (vj8 <<< ((24 : Int32) &&& 0x3f).toInt64)) ||| (vj10 <<< ((32 : Int32) &&& 0x3f).toInt64)) ||| (vj12 <<< ((40 : Int32) &&& 0x3f).toInt64)) ||| (vj14 <<< ((48 : Int32) &&& 0x3f).toInt64)))])) rfl (by rw [hml]; rfl) (argsL := [(.long q1), (.long q2), (.int p3), (.int (7 : Int32))]) (rest := [(.long ((((((vj2 ||| (vj4 <<< ((8 : Int32) &&& 0x3f).toInt64)) ||| (vj6 <<< ((16 : Int32) &&& 0x3f).toInt64)) ||| (vj8 <<< ((24 : Int32) &&& 0x3f).toInt64)) ||| (vj10 <<< ((32 : Int32) &&& 0x3f).toInt64)) ||| (vj12 <<< ((40 : Int32) &&& 0x3f).toInt64)) ||| (vj14 <<< ((48 : Int32) &&& 0x3f).toInt64)))]) (lenOf pd_0 rfl) rfl (by show 2 * 0 + _ ≤ _; exact Nat.le_of_eq rfl) (hb hby at_87) (fun _ _ => ⟨rfl, e13, (by decide : 0 + 0 ≤ _), (by decide : 0 + 0 ≤ _)⟩)
  dsimp only [Pt.U, Pt.locs, Pt.cells, Pt.slots] at X15 l15 y15 z15 st15 hQ15
  subst l15 y15 z15
  obtain ⟨rfl, N15q, e15⟩ := hQ15
  have N15 := Fr.app N13 N15q
  replace X15 : Stand p l e room_1 s m _ below meth c T15 _ 0 0 := X15
  refine own_go st15 ?_
  show WP p e below _ (T15.setTop (mkF m 90 #[.val (.long q1), .second, .val (.long q2), .second, .val (.int p3), .unset, .unset, .unset] [(.long (f1 q1 q2 p3 (7 : Int32))), (.long ((((((vj2 ||| (vj4 <<< ((8 : Int32) &&& 0x3f).toInt64)) ||| (vj6 <<< ((16 : Int32) &&& 0x3f).toInt64)) ||| (vj8 <<< ((24 : Int32) &&& 0x3f).toInt64)) ||| (vj10 <<< ((32 : Int32) &&& 0x3f).toInt64)) ||| (vj12 <<< ((40 : Int32) &&& 0x3f).toInt64)) ||| (vj14 <<< ((48 : Int32) &&& 0x3f).toInt64)))]))
  generalize he16 : (f1 q1 q2 p3 (7 : Int32)) = vj16
  show WP p e below _ (T15.setTop (mkF m 90 #[.val (.long q1), .second, .val (.long q2), .second, .val (.int p3), .unset, .unset, .unset] [(.long vj16), (.long ((((((vj2 ||| (vj4 <<< ((8 : Int32) &&& 0x3f).toInt64)) ||| (vj6 <<< ((16 : Int32) &&& 0x3f).toInt64)) ||| (vj8 <<< ((24 : Int32) &&& 0x3f).toInt64)) ||| (vj10 <<< ((32 : Int32) &&& 0x3f).toInt64)) ||| (vj12 <<< ((40 : Int32) &&& 0x3f).toInt64)) ||| (vj14 <<< ((48 : Int32) &&& 0x3f).toInt64)))]))
  refine own_go (fun t_ k => XS.bipush X15.here hx rfl (hb hby at_90) k) ?_
  show WP p e below _ (T15.setTop (mkF m 92 #[.val (.long q1), .second, .val (.long q2), .second, .val (.int p3), .unset, .unset, .unset] [(.int (56 : Int32)), (.long vj16), (.long ((((((vj2 ||| (vj4 <<< ((8 : Int32) &&& 0x3f).toInt64)) ||| (vj6 <<< ((16 : Int32) &&& 0x3f).toInt64)) ||| (vj8 <<< ((24 : Int32) &&& 0x3f).toInt64)) ||| (vj10 <<< ((32 : Int32) &&& 0x3f).toInt64)) ||| (vj12 <<< ((40 : Int32) &&& 0x3f).toInt64)) ||| (vj14 <<< ((48 : Int32) &&& 0x3f).toInt64)))]))
  refine own_go (fun t_ k => XS.lshl X15.here hx rfl (hb hby at_92) rfl k) ?_
  show WP p e below _ (T15.setTop (mkF m 93 #[.val (.long q1), .second, .val (.long q2), .second, .val (.int p3), .unset, .unset, .unset] [(.long (vj16 <<< ((56 : Int32) &&& 0x3f).toInt64)), (.long ((((((vj2 ||| (vj4 <<< ((8 : Int32) &&& 0x3f).toInt64)) ||| (vj6 <<< ((16 : Int32) &&& 0x3f).toInt64)) ||| (vj8 <<< ((24 : Int32) &&& 0x3f).toInt64)) ||| (vj10 <<< ((32 : Int32) &&& 0x3f).toInt64)) ||| (vj12 <<< ((40 : Int32) &&& 0x3f).toInt64)) ||| (vj14 <<< ((48 : Int32) &&& 0x3f).toInt64)))]))
  refine own_go (fun t_ k => XS.lor X15.here hx rfl (hb hby at_93) rfl k) ?_
  show WP p e below _ (T15.setTop (mkF m 94 #[.val (.long q1), .second, .val (.long q2), .second, .val (.int p3), .unset, .unset, .unset] [(.long (((((((vj2 ||| (vj4 <<< ((8 : Int32) &&& 0x3f).toInt64)) ||| (vj6 <<< ((16 : Int32) &&& 0x3f).toInt64)) ||| (vj8 <<< ((24 : Int32) &&& 0x3f).toInt64)) ||| (vj10 <<< ((32 : Int32) &&& 0x3f).toInt64)) ||| (vj12 <<< ((40 : Int32) &&& 0x3f).toInt64)) ||| (vj14 <<< ((48 : Int32) &&& 0x3f).toInt64)) ||| (vj16 <<< ((56 : Int32) &&& 0x3f).toInt64)))]))
  refine own_go (fun t_ k => XS.lstore X15.here hx rfl (hb hby at_94) rfl (l' := #[.val (.long q1), .second, .val (.long q2), .second, .val (.int p3), .val (.long (((((((vj2 ||| (vj4 <<< ((8 : Int32) &&& 0x3f).toInt64)) ||| (vj6 <<< ((16 : Int32) &&& 0x3f).toInt64)) ||| (vj8 <<< ((24 : Int32) &&& 0x3f).toInt64)) ||| (vj10 <<< ((32 : Int32) &&& 0x3f).toInt64)) ||| (vj12 <<< ((40 : Int32) &&& 0x3f).toInt64)) ||| (vj14 <<< ((48 : Int32) &&& 0x3f).toInt64)) ||| (vj16 <<< ((56 : Int32) &&& 0x3f).toInt64))), .second, .unset]) rfl k) ?_
  show WP p e below _ (T15.setTop (mkF m 96 #[.val (.long q1), .second, .val (.long q2), .second, .val (.int p3), .val (.long (((((((vj2 ||| (vj4 <<< ((8 : Int32) &&& 0x3f).toInt64)) ||| (vj6 <<< ((16 : Int32) &&& 0x3f).toInt64)) ||| (vj8 <<< ((24 : Int32) &&& 0x3f).toInt64)) ||| (vj10 <<< ((32 : Int32) &&& 0x3f).toInt64)) ||| (vj12 <<< ((40 : Int32) &&& 0x3f).toInt64)) ||| (vj14 <<< ((48 : Int32) &&& 0x3f).toInt64)) ||| (vj16 <<< ((56 : Int32) &&& 0x3f).toInt64))), .second, .unset] []))
  generalize he17 : (((((((vj2 ||| (vj4 <<< ((8 : Int32) &&& 0x3f).toInt64)) ||| (vj6 <<< ((16 : Int32) &&& 0x3f).toInt64)) ||| (vj8 <<< ((24 : Int32) &&& 0x3f).toInt64)) ||| (vj10 <<< ((32 : Int32) &&& 0x3f).toInt64)) ||| (vj12 <<< ((40 : Int32) &&& 0x3f).toInt64)) ||| (vj14 <<< ((48 : Int32) &&& 0x3f).toInt64)) ||| (vj16 <<< ((56 : Int32) &&& 0x3f).toInt64)) = vj17
  show WP p e below _ (T15.setTop (mkF m 96 #[.val (.long q1), .second, .val (.long q2), .second, .val (.int p3), .val (.long vj17), .second, .unset] []))
  refine own_go (fun t_ k => XS.lload X15.here hx rfl (hb hby at_96) rfl k) ?_
  show WP p e below _ (T15.setTop (mkF m 98 #[.val (.long q1), .second, .val (.long q2), .second, .val (.int p3), .val (.long vj17), .second, .unset] [(.long vj17)]))
  refine own_go (fun t_ k => XS.iconst X15.here hx rfl (hb hby at_98) k) ?_
  show WP p e below _ (T15.setTop (mkF m 99 #[.val (.long q1), .second, .val (.long q2), .second, .val (.int p3), .val (.long vj17), .second, .unset] [(.int (0 : Int32)), (.long vj17)]))
  obtain ⟨_, _, ⟨T18, L18, k18, n18⟩, -, X18, ⟨Lc18, hQ18, l18, y18, z18⟩, st18⟩ := Jvm.LawKit.callS X15 hx (y := (⟨"com/example/bittern/bittern/DigitsAllDigitsPinLaw", "digitAt", "(JI)Z"⟩ : MethodName)) hown (mvT hZ (hw _ (List.mem_of_getElem? (i := 5) rfl))) (mvT hZ (hw _ (List.mem_of_getElem? (i := 6) rfl))) (mvT hZ (hw _ (List.mem_of_getElem? (i := 2) rfl))) (mvT hZ (hw _ (List.mem_of_getElem? (i := 7) rfl))) (by decide) (backOf (W := 0) (rm2 l Z a0 hw [] vj17 (0 : Int32) h0 n0) hZ (hw _ (List.mem_of_getElem? (i := 7) rfl)) (hw _ (List.mem_of_getElem? (i := 2) rfl)) (by decide) (by decide)) (g := (mkF m 99 #[.val (.long q1), .second, .val (.long q2), .second, .val (.int p3), .val (.long vj17), .second, .unset] [(.int (0 : Int32)), (.long vj17)])) rfl (by rw [hml]; rfl) (argsL := [(.long vj17), (.int (0 : Int32))]) (rest := []) (lenOf pd_1 rfl) rfl (by show 2 * 0 + _ ≤ _; exact Nat.le_of_eq rfl) (hb hby at_99) (fun _ _ => ⟨rfl, e15, (by decide : 0 + 0 ≤ _), (by decide : 0 + 0 ≤ _)⟩)
  dsimp only [Pt.U, Pt.locs, Pt.cells, Pt.slots] at X18 l18 y18 z18 st18 hQ18
  subst l18 y18 z18
  obtain ⟨rfl, N18q, e18⟩ := hQ18
  have N18 := Fr.app N15 N18q
  replace X18 : Stand p l e room_1 s m _ below meth c T18 _ 0 0 := X18
  refine own_go st18 ?_
  show WP p e below _ (T18.setTop (mkF m 102 #[.val (.long q1), .second, .val (.long q2), .second, .val (.int p3), .val (.long vj17), .second, .unset] [(.int (f2 vj17 (0 : Int32)))]))
  generalize he19 : (f2 vj17 (0 : Int32)) = vi19
  show WP p e below _ (T18.setTop (mkF m 102 #[.val (.long q1), .second, .val (.long q2), .second, .val (.int p3), .val (.long vj17), .second, .unset] [(.int vi19)]))
  have J22 : ∀ (T22 : State) (ls22 : List Loc) (X22 : Stand p l e room_1 s m #[(.long q1), (.long q2), (.int p3)] below meth c T22 ls22 0 0) (N22 : Fr n0 ls22) (e22 : T22.heap = h0) (z21_S0 : Int32) (hz21_S0 : z21_S0 = (if vi19 = (0 : Int32) then (0 : Int32) else (if (f2 vj17 (1 : Int32)) = (0 : Int32) then (0 : Int32) else (if (f2 vj17 (2 : Int32)) = (0 : Int32) then (0 : Int32) else (if (f2 vj17 (3 : Int32)) = (0 : Int32) then (0 : Int32) else (if (f2 vj17 (4 : Int32)) = (0 : Int32) then (0 : Int32) else (if (f2 vj17 (5 : Int32)) = (0 : Int32) then (0 : Int32) else (if (f2 vj17 (6 : Int32)) = (0 : Int32) then (0 : Int32) else (if (f2 vj17 (7 : Int32)) = (0 : Int32) then (0 : Int32) else (1 : Int32)))))))))), WP p e below (GG (Q0 n0) s room_1.cells room_1.slots) (T22.setTop (mkF m 175 #[.val (.long q1), .second, .val (.long q2), .second, .val (.int p3), .val (.long vj17), .second, .unset] [(.int z21_S0)])) := by
    intro T22 ls22 X22 N22 e22 z21_S0 hz21_S0
    show WP p e below _ (T22.setTop (mkF m 175 #[.val (.long q1), .second, .val (.long q2), .second, .val (.int p3), .val (.long vj17), .second, .unset] [(.int z21_S0)]))
    refine own_go (fun t_ k => XS.istore X22.here hx rfl (hb hby at_175) rfl (l' := #[.val (.long q1), .second, .val (.long q2), .second, .val (.int p3), .val (.long vj17), .second, .val (.int z21_S0)]) rfl k) ?_
    show WP p e below _ (T22.setTop (mkF m 177 #[.val (.long q1), .second, .val (.long q2), .second, .val (.int p3), .val (.long vj17), .second, .val (.int z21_S0)] []))
    refine own_go (fun t_ k => XS.lload X22.here hx rfl (hb hby at_177) rfl k) ?_
    show WP p e below _ (T22.setTop (mkF m 179 #[.val (.long q1), .second, .val (.long q2), .second, .val (.int p3), .val (.long vj17), .second, .val (.int z21_S0)] [(.long vj17)]))
    obtain ⟨_, _, ⟨T23, L23, k23, n23⟩, -, X23, ⟨Lc23, hQ23, l23, y23, z23⟩, st23⟩ := Jvm.LawKit.callS X22 hx (y := (⟨"com/example/bittern/bittern/Digits", "allDigits", "(J)Z"⟩ : MethodName)) hown (mvT hZ (hw _ (List.mem_of_getElem? (i := 9) rfl))) (mvT hZ (hw _ (List.mem_of_getElem? (i := 10) rfl))) (mvT hZ (hw _ (List.mem_of_getElem? (i := 11) rfl))) (mvT hZ (hw _ (List.mem_of_getElem? (i := 12) rfl))) (by decide) (backOf (W := 0) (rm3 l Z a0 hw [] vj17 h0 n0) hZ (hw _ (List.mem_of_getElem? (i := 12) rfl)) (hw _ (List.mem_of_getElem? (i := 11) rfl)) (by decide) (by decide)) (g := (mkF m 179 #[.val (.long q1), .second, .val (.long q2), .second, .val (.int p3), .val (.long vj17), .second, .val (.int z21_S0)] [(.long vj17)])) rfl (by rw [hml]; rfl) (argsL := [(.long vj17)]) (rest := []) (lenOf pd_2 rfl) rfl (by show 2 * 0 + _ ≤ _; exact Nat.le_of_eq rfl) (hb hby at_179) (fun _ _ => ⟨rfl, e22, (by decide : 0 + 0 ≤ _), (by decide : 0 + 0 ≤ _)⟩)
    dsimp only [Pt.U, Pt.locs, Pt.cells, Pt.slots] at X23 l23 y23 z23 st23 hQ23
    subst l23 y23 z23
    obtain ⟨rfl, N23q, e23⟩ := hQ23
    have N23 := Fr.app N22 N23q
    replace X23 : Stand p l e room_1 s m _ below meth c T23 _ 0 0 := X23
    refine own_go st23 ?_
    show WP p e below _ (T23.setTop (mkF m 182 #[.val (.long q1), .second, .val (.long q2), .second, .val (.int p3), .val (.long vj17), .second, .val (.int z21_S0)] [(.int (f3 vj17))]))
    generalize he24 : (f3 vj17) = vi24
    show WP p e below _ (T23.setTop (mkF m 182 #[.val (.long q1), .second, .val (.long q2), .second, .val (.int p3), .val (.long vj17), .second, .val (.int z21_S0)] [(.int vi24)]))
    refine own_go (fun t_ k => XS.iload X23.here hx rfl (hb hby at_182) rfl k) ?_
    show WP p e below _ (T23.setTop (mkF m 184 #[.val (.long q1), .second, .val (.long q2), .second, .val (.int p3), .val (.long vj17), .second, .val (.int z21_S0)] [(.int z21_S0), (.int vi24)]))
    have J27 : ∀ (T27 : State) (ls27 : List Loc) (X27 : Stand p l e room_1 s m #[(.long q1), (.long q2), (.int p3)] below meth c T27 ls27 0 0) (N27 : Fr n0 ls27) (e27 : T27.heap = h0) (z26_S0 : Int32) (hz26_S0 : z26_S0 = (if vi24 = z21_S0 then (1 : Int32) else (0 : Int32))), WP p e below (GG (Q0 n0) s room_1.cells room_1.slots) (T27.setTop (mkF m 192 #[.val (.long q1), .second, .val (.long q2), .second, .val (.int p3), .val (.long vj17), .second, .val (.int z21_S0)] [(.int z26_S0)])) := by
      intro T27 ls27 X27 N27 e27 z26_S0 hz26_S0
      show WP p e below _ (T27.setTop (mkF m 192 #[.val (.long q1), .second, .val (.long q2), .second, .val (.int p3), .val (.long vj17), .second, .val (.int z21_S0)] [(.int z26_S0)]))
      exact own_retZ X27 hx Bd.notSynchronized Bd.returns (hb hby at_192) (by rw [hz26_S0]; (repeat' split); all_goals first | exact Or.inl rfl | exact Or.inr rfl) (show Q0 n0 _ _ _ from ⟨by rw [own_law_1 he2 he4 he6 he8 he10 he12 he14 he16 he17 he19 hz21_S0 he24 hz26_S0], N27⟩) (by decide) (by decide)
    by_cases hc184_25 : vi24 = z21_S0
    · refine own_go (fun t_ k => XS.icmpNo X23.here hx rfl (hb hby at_184) rfl (teq hc184_25).2 k) ?_
      show WP p e below _ (T23.setTop (mkF m 187 #[.val (.long q1), .second, .val (.long q2), .second, .val (.int p3), .val (.long vj17), .second, .val (.int z21_S0)] []))
      refine own_go (fun t_ k => XS.iconst X23.here hx rfl (hb hby at_187) k) ?_
      show WP p e below _ (T23.setTop (mkF m 188 #[.val (.long q1), .second, .val (.long q2), .second, .val (.int p3), .val (.long vj17), .second, .val (.int z21_S0)] [(.int (1 : Int32))]))
      refine own_go (fun t_ k => XS.goto X23.here hx rfl (pc0 := 188) (pc' := 192) rfl (hb hby at_188) (by decide) (by decide) k) ?_
      show WP p e below _ (T23.setTop (mkF m 192 #[.val (.long q1), .second, .val (.long q2), .second, .val (.int p3), .val (.long vj17), .second, .val (.int z21_S0)] [(.int (1 : Int32))]))
      exact J27 T23 _ X23 N23 e23 _ (by rw [if_pos hc184_25])
    · refine own_go (fun t_ k => XS.icmpYes X23.here hx rfl (pc0 := 184) (pc' := 191) rfl (hb hby at_184) rfl (feq hc184_25).2 (by decide) (by decide) k) ?_
      show WP p e below _ (T23.setTop (mkF m 191 #[.val (.long q1), .second, .val (.long q2), .second, .val (.int p3), .val (.long vj17), .second, .val (.int z21_S0)] []))
      refine own_go (fun t_ k => XS.iconst X23.here hx rfl (hb hby at_191) k) ?_
      show WP p e below _ (T23.setTop (mkF m 192 #[.val (.long q1), .second, .val (.long q2), .second, .val (.int p3), .val (.long vj17), .second, .val (.int z21_S0)] [(.int (0 : Int32))]))
      exact J27 T23 _ X23 N23 e23 _ (by rw [if_neg hc184_25])
  by_cases hc102_20 : vi19 = (0 : Int32)
  · refine own_go (fun t_ k => XS.ifYes X18.here hx rfl (pc0 := 102) (pc' := 174) rfl (hb hby at_102) rfl ((if0 _ _).trans (teq hc102_20).1) (by decide) (by decide) k) ?_
    show WP p e below _ (T18.setTop (mkF m 174 #[.val (.long q1), .second, .val (.long q2), .second, .val (.int p3), .val (.long vj17), .second, .unset] []))
    refine own_go (fun t_ k => XS.iconst X18.here hx rfl (hb hby at_174) k) ?_
    show WP p e below _ (T18.setTop (mkF m 175 #[.val (.long q1), .second, .val (.long q2), .second, .val (.int p3), .val (.long vj17), .second, .unset] [(.int (0 : Int32))]))
    exact J22 T18 _ X18 N18 e18 _ (by rw [if_pos hc102_20])
  · refine own_go (fun t_ k => XS.ifNo X18.here hx rfl (hb hby at_102) rfl ((if0 _ _).trans (feq hc102_20).1) k) ?_
    show WP p e below _ (T18.setTop (mkF m 105 #[.val (.long q1), .second, .val (.long q2), .second, .val (.int p3), .val (.long vj17), .second, .unset] []))
    refine own_go (fun t_ k => XS.lload X18.here hx rfl (hb hby at_105) rfl k) ?_
    show WP p e below _ (T18.setTop (mkF m 107 #[.val (.long q1), .second, .val (.long q2), .second, .val (.int p3), .val (.long vj17), .second, .unset] [(.long vj17)]))
    refine own_go (fun t_ k => XS.iconst X18.here hx rfl (hb hby at_107) k) ?_
    show WP p e below _ (T18.setTop (mkF m 108 #[.val (.long q1), .second, .val (.long q2), .second, .val (.int p3), .val (.long vj17), .second, .unset] [(.int (1 : Int32)), (.long vj17)]))
    obtain ⟨_, _, ⟨T28, L28, k28, n28⟩, -, X28, ⟨Lc28, hQ28, l28, y28, z28⟩, st28⟩ := Jvm.LawKit.callS X18 hx (y := (⟨"com/example/bittern/bittern/DigitsAllDigitsPinLaw", "digitAt", "(JI)Z"⟩ : MethodName)) hown (mvT hZ (hw _ (List.mem_of_getElem? (i := 5) rfl))) (mvT hZ (hw _ (List.mem_of_getElem? (i := 6) rfl))) (mvT hZ (hw _ (List.mem_of_getElem? (i := 2) rfl))) (mvT hZ (hw _ (List.mem_of_getElem? (i := 7) rfl))) (by decide) (backOf (W := 0) (rm2 l Z a0 hw [] vj17 (1 : Int32) h0 n0) hZ (hw _ (List.mem_of_getElem? (i := 7) rfl)) (hw _ (List.mem_of_getElem? (i := 2) rfl)) (by decide) (by decide)) (g := (mkF m 108 #[.val (.long q1), .second, .val (.long q2), .second, .val (.int p3), .val (.long vj17), .second, .unset] [(.int (1 : Int32)), (.long vj17)])) rfl (by rw [hml]; rfl) (argsL := [(.long vj17), (.int (1 : Int32))]) (rest := []) (lenOf pd_1 rfl) rfl (by show 2 * 0 + _ ≤ _; exact Nat.le_of_eq rfl) (hb hby at_108) (fun _ _ => ⟨rfl, e18, (by decide : 0 + 0 ≤ _), (by decide : 0 + 0 ≤ _)⟩)
    dsimp only [Pt.U, Pt.locs, Pt.cells, Pt.slots] at X28 l28 y28 z28 st28 hQ28
    subst l28 y28 z28
    obtain ⟨rfl, N28q, e28⟩ := hQ28
    have N28 := Fr.app N18 N28q
    replace X28 : Stand p l e room_1 s m _ below meth c T28 _ 0 0 := X28
    refine own_go st28 ?_
    show WP p e below _ (T28.setTop (mkF m 111 #[.val (.long q1), .second, .val (.long q2), .second, .val (.int p3), .val (.long vj17), .second, .unset] [(.int (f2 vj17 (1 : Int32)))]))
    by_cases hc111_29 : (f2 vj17 (1 : Int32)) = (0 : Int32)
    · refine own_go (fun t_ k => XS.ifYes X28.here hx rfl (pc0 := 111) (pc' := 174) rfl (hb hby at_111) rfl ((if0 _ _).trans (teq hc111_29).1) (by decide) (by decide) k) ?_
      show WP p e below _ (T28.setTop (mkF m 174 #[.val (.long q1), .second, .val (.long q2), .second, .val (.int p3), .val (.long vj17), .second, .unset] []))
      refine own_go (fun t_ k => XS.iconst X28.here hx rfl (hb hby at_174) k) ?_
      show WP p e below _ (T28.setTop (mkF m 175 #[.val (.long q1), .second, .val (.long q2), .second, .val (.int p3), .val (.long vj17), .second, .unset] [(.int (0 : Int32))]))
      exact J22 T28 _ X28 N28 e28 _ (by rw [if_neg hc102_20, if_pos hc111_29])
    · refine own_go (fun t_ k => XS.ifNo X28.here hx rfl (hb hby at_111) rfl ((if0 _ _).trans (feq hc111_29).1) k) ?_
      show WP p e below _ (T28.setTop (mkF m 114 #[.val (.long q1), .second, .val (.long q2), .second, .val (.int p3), .val (.long vj17), .second, .unset] []))
      refine own_go (fun t_ k => XS.lload X28.here hx rfl (hb hby at_114) rfl k) ?_
      show WP p e below _ (T28.setTop (mkF m 116 #[.val (.long q1), .second, .val (.long q2), .second, .val (.int p3), .val (.long vj17), .second, .unset] [(.long vj17)]))
      refine own_go (fun t_ k => XS.iconst X28.here hx rfl (hb hby at_116) k) ?_
      show WP p e below _ (T28.setTop (mkF m 117 #[.val (.long q1), .second, .val (.long q2), .second, .val (.int p3), .val (.long vj17), .second, .unset] [(.int (2 : Int32)), (.long vj17)]))
      obtain ⟨_, _, ⟨T30, L30, k30, n30⟩, -, X30, ⟨Lc30, hQ30, l30, y30, z30⟩, st30⟩ := Jvm.LawKit.callS X28 hx (y := (⟨"com/example/bittern/bittern/DigitsAllDigitsPinLaw", "digitAt", "(JI)Z"⟩ : MethodName)) hown (mvT hZ (hw _ (List.mem_of_getElem? (i := 5) rfl))) (mvT hZ (hw _ (List.mem_of_getElem? (i := 6) rfl))) (mvT hZ (hw _ (List.mem_of_getElem? (i := 2) rfl))) (mvT hZ (hw _ (List.mem_of_getElem? (i := 7) rfl))) (by decide) (backOf (W := 0) (rm2 l Z a0 hw [] vj17 (2 : Int32) h0 n0) hZ (hw _ (List.mem_of_getElem? (i := 7) rfl)) (hw _ (List.mem_of_getElem? (i := 2) rfl)) (by decide) (by decide)) (g := (mkF m 117 #[.val (.long q1), .second, .val (.long q2), .second, .val (.int p3), .val (.long vj17), .second, .unset] [(.int (2 : Int32)), (.long vj17)])) rfl (by rw [hml]; rfl) (argsL := [(.long vj17), (.int (2 : Int32))]) (rest := []) (lenOf pd_1 rfl) rfl (by show 2 * 0 + _ ≤ _; exact Nat.le_of_eq rfl) (hb hby at_117) (fun _ _ => ⟨rfl, e28, (by decide : 0 + 0 ≤ _), (by decide : 0 + 0 ≤ _)⟩)
      dsimp only [Pt.U, Pt.locs, Pt.cells, Pt.slots] at X30 l30 y30 z30 st30 hQ30
      subst l30 y30 z30
      obtain ⟨rfl, N30q, e30⟩ := hQ30
      have N30 := Fr.app N28 N30q
      replace X30 : Stand p l e room_1 s m _ below meth c T30 _ 0 0 := X30
      refine own_go st30 ?_
      show WP p e below _ (T30.setTop (mkF m 120 #[.val (.long q1), .second, .val (.long q2), .second, .val (.int p3), .val (.long vj17), .second, .unset] [(.int (f2 vj17 (2 : Int32)))]))
      by_cases hc120_31 : (f2 vj17 (2 : Int32)) = (0 : Int32)
      · refine own_go (fun t_ k => XS.ifYes X30.here hx rfl (pc0 := 120) (pc' := 174) rfl (hb hby at_120) rfl ((if0 _ _).trans (teq hc120_31).1) (by decide) (by decide) k) ?_
        show WP p e below _ (T30.setTop (mkF m 174 #[.val (.long q1), .second, .val (.long q2), .second, .val (.int p3), .val (.long vj17), .second, .unset] []))
        refine own_go (fun t_ k => XS.iconst X30.here hx rfl (hb hby at_174) k) ?_
        show WP p e below _ (T30.setTop (mkF m 175 #[.val (.long q1), .second, .val (.long q2), .second, .val (.int p3), .val (.long vj17), .second, .unset] [(.int (0 : Int32))]))
        exact J22 T30 _ X30 N30 e30 _ (by rw [if_neg hc102_20, if_neg hc111_29, if_pos hc120_31])
      · refine own_go (fun t_ k => XS.ifNo X30.here hx rfl (hb hby at_120) rfl ((if0 _ _).trans (feq hc120_31).1) k) ?_
        show WP p e below _ (T30.setTop (mkF m 123 #[.val (.long q1), .second, .val (.long q2), .second, .val (.int p3), .val (.long vj17), .second, .unset] []))
        refine own_go (fun t_ k => XS.lload X30.here hx rfl (hb hby at_123) rfl k) ?_
        show WP p e below _ (T30.setTop (mkF m 125 #[.val (.long q1), .second, .val (.long q2), .second, .val (.int p3), .val (.long vj17), .second, .unset] [(.long vj17)]))
        refine own_go (fun t_ k => XS.iconst X30.here hx rfl (hb hby at_125) k) ?_
        show WP p e below _ (T30.setTop (mkF m 126 #[.val (.long q1), .second, .val (.long q2), .second, .val (.int p3), .val (.long vj17), .second, .unset] [(.int (3 : Int32)), (.long vj17)]))
        obtain ⟨_, _, ⟨T32, L32, k32, n32⟩, -, X32, ⟨Lc32, hQ32, l32, y32, z32⟩, st32⟩ := Jvm.LawKit.callS X30 hx (y := (⟨"com/example/bittern/bittern/DigitsAllDigitsPinLaw", "digitAt", "(JI)Z"⟩ : MethodName)) hown (mvT hZ (hw _ (List.mem_of_getElem? (i := 5) rfl))) (mvT hZ (hw _ (List.mem_of_getElem? (i := 6) rfl))) (mvT hZ (hw _ (List.mem_of_getElem? (i := 2) rfl))) (mvT hZ (hw _ (List.mem_of_getElem? (i := 7) rfl))) (by decide) (backOf (W := 0) (rm2 l Z a0 hw [] vj17 (3 : Int32) h0 n0) hZ (hw _ (List.mem_of_getElem? (i := 7) rfl)) (hw _ (List.mem_of_getElem? (i := 2) rfl)) (by decide) (by decide)) (g := (mkF m 126 #[.val (.long q1), .second, .val (.long q2), .second, .val (.int p3), .val (.long vj17), .second, .unset] [(.int (3 : Int32)), (.long vj17)])) rfl (by rw [hml]; rfl) (argsL := [(.long vj17), (.int (3 : Int32))]) (rest := []) (lenOf pd_1 rfl) rfl (by show 2 * 0 + _ ≤ _; exact Nat.le_of_eq rfl) (hb hby at_126) (fun _ _ => ⟨rfl, e30, (by decide : 0 + 0 ≤ _), (by decide : 0 + 0 ≤ _)⟩)
        dsimp only [Pt.U, Pt.locs, Pt.cells, Pt.slots] at X32 l32 y32 z32 st32 hQ32
        subst l32 y32 z32
        obtain ⟨rfl, N32q, e32⟩ := hQ32
        have N32 := Fr.app N30 N32q
        replace X32 : Stand p l e room_1 s m _ below meth c T32 _ 0 0 := X32
        refine own_go st32 ?_
        show WP p e below _ (T32.setTop (mkF m 129 #[.val (.long q1), .second, .val (.long q2), .second, .val (.int p3), .val (.long vj17), .second, .unset] [(.int (f2 vj17 (3 : Int32)))]))
        by_cases hc129_33 : (f2 vj17 (3 : Int32)) = (0 : Int32)
        · refine own_go (fun t_ k => XS.ifYes X32.here hx rfl (pc0 := 129) (pc' := 174) rfl (hb hby at_129) rfl ((if0 _ _).trans (teq hc129_33).1) (by decide) (by decide) k) ?_
          show WP p e below _ (T32.setTop (mkF m 174 #[.val (.long q1), .second, .val (.long q2), .second, .val (.int p3), .val (.long vj17), .second, .unset] []))
          refine own_go (fun t_ k => XS.iconst X32.here hx rfl (hb hby at_174) k) ?_
          show WP p e below _ (T32.setTop (mkF m 175 #[.val (.long q1), .second, .val (.long q2), .second, .val (.int p3), .val (.long vj17), .second, .unset] [(.int (0 : Int32))]))
          exact J22 T32 _ X32 N32 e32 _ (by rw [if_neg hc102_20, if_neg hc111_29, if_neg hc120_31, if_pos hc129_33])
        · refine own_go (fun t_ k => XS.ifNo X32.here hx rfl (hb hby at_129) rfl ((if0 _ _).trans (feq hc129_33).1) k) ?_
          show WP p e below _ (T32.setTop (mkF m 132 #[.val (.long q1), .second, .val (.long q2), .second, .val (.int p3), .val (.long vj17), .second, .unset] []))
          refine own_go (fun t_ k => XS.lload X32.here hx rfl (hb hby at_132) rfl k) ?_
          show WP p e below _ (T32.setTop (mkF m 134 #[.val (.long q1), .second, .val (.long q2), .second, .val (.int p3), .val (.long vj17), .second, .unset] [(.long vj17)]))
          refine own_go (fun t_ k => XS.iconst X32.here hx rfl (hb hby at_134) k) ?_
          show WP p e below _ (T32.setTop (mkF m 135 #[.val (.long q1), .second, .val (.long q2), .second, .val (.int p3), .val (.long vj17), .second, .unset] [(.int (4 : Int32)), (.long vj17)]))
          obtain ⟨_, _, ⟨T34, L34, k34, n34⟩, -, X34, ⟨Lc34, hQ34, l34, y34, z34⟩, st34⟩ := Jvm.LawKit.callS X32 hx (y := (⟨"com/example/bittern/bittern/DigitsAllDigitsPinLaw", "digitAt", "(JI)Z"⟩ : MethodName)) hown (mvT hZ (hw _ (List.mem_of_getElem? (i := 5) rfl))) (mvT hZ (hw _ (List.mem_of_getElem? (i := 6) rfl))) (mvT hZ (hw _ (List.mem_of_getElem? (i := 2) rfl))) (mvT hZ (hw _ (List.mem_of_getElem? (i := 7) rfl))) (by decide) (backOf (W := 0) (rm2 l Z a0 hw [] vj17 (4 : Int32) h0 n0) hZ (hw _ (List.mem_of_getElem? (i := 7) rfl)) (hw _ (List.mem_of_getElem? (i := 2) rfl)) (by decide) (by decide)) (g := (mkF m 135 #[.val (.long q1), .second, .val (.long q2), .second, .val (.int p3), .val (.long vj17), .second, .unset] [(.int (4 : Int32)), (.long vj17)])) rfl (by rw [hml]; rfl) (argsL := [(.long vj17), (.int (4 : Int32))]) (rest := []) (lenOf pd_1 rfl) rfl (by show 2 * 0 + _ ≤ _; exact Nat.le_of_eq rfl) (hb hby at_135) (fun _ _ => ⟨rfl, e32, (by decide : 0 + 0 ≤ _), (by decide : 0 + 0 ≤ _)⟩)
          dsimp only [Pt.U, Pt.locs, Pt.cells, Pt.slots] at X34 l34 y34 z34 st34 hQ34
          subst l34 y34 z34
          obtain ⟨rfl, N34q, e34⟩ := hQ34
          have N34 := Fr.app N32 N34q
          replace X34 : Stand p l e room_1 s m _ below meth c T34 _ 0 0 := X34
          refine own_go st34 ?_
          show WP p e below _ (T34.setTop (mkF m 138 #[.val (.long q1), .second, .val (.long q2), .second, .val (.int p3), .val (.long vj17), .second, .unset] [(.int (f2 vj17 (4 : Int32)))]))
          by_cases hc138_35 : (f2 vj17 (4 : Int32)) = (0 : Int32)
          · refine own_go (fun t_ k => XS.ifYes X34.here hx rfl (pc0 := 138) (pc' := 174) rfl (hb hby at_138) rfl ((if0 _ _).trans (teq hc138_35).1) (by decide) (by decide) k) ?_
            show WP p e below _ (T34.setTop (mkF m 174 #[.val (.long q1), .second, .val (.long q2), .second, .val (.int p3), .val (.long vj17), .second, .unset] []))
            refine own_go (fun t_ k => XS.iconst X34.here hx rfl (hb hby at_174) k) ?_
            show WP p e below _ (T34.setTop (mkF m 175 #[.val (.long q1), .second, .val (.long q2), .second, .val (.int p3), .val (.long vj17), .second, .unset] [(.int (0 : Int32))]))
            exact J22 T34 _ X34 N34 e34 _ (by rw [if_neg hc102_20, if_neg hc111_29, if_neg hc120_31, if_neg hc129_33, if_pos hc138_35])
          · refine own_go (fun t_ k => XS.ifNo X34.here hx rfl (hb hby at_138) rfl ((if0 _ _).trans (feq hc138_35).1) k) ?_
            show WP p e below _ (T34.setTop (mkF m 141 #[.val (.long q1), .second, .val (.long q2), .second, .val (.int p3), .val (.long vj17), .second, .unset] []))
            refine own_go (fun t_ k => XS.lload X34.here hx rfl (hb hby at_141) rfl k) ?_
            show WP p e below _ (T34.setTop (mkF m 143 #[.val (.long q1), .second, .val (.long q2), .second, .val (.int p3), .val (.long vj17), .second, .unset] [(.long vj17)]))
            refine own_go (fun t_ k => XS.iconst X34.here hx rfl (hb hby at_143) k) ?_
            show WP p e below _ (T34.setTop (mkF m 144 #[.val (.long q1), .second, .val (.long q2), .second, .val (.int p3), .val (.long vj17), .second, .unset] [(.int (5 : Int32)), (.long vj17)]))
            obtain ⟨_, _, ⟨T36, L36, k36, n36⟩, -, X36, ⟨Lc36, hQ36, l36, y36, z36⟩, st36⟩ := Jvm.LawKit.callS X34 hx (y := (⟨"com/example/bittern/bittern/DigitsAllDigitsPinLaw", "digitAt", "(JI)Z"⟩ : MethodName)) hown (mvT hZ (hw _ (List.mem_of_getElem? (i := 5) rfl))) (mvT hZ (hw _ (List.mem_of_getElem? (i := 6) rfl))) (mvT hZ (hw _ (List.mem_of_getElem? (i := 2) rfl))) (mvT hZ (hw _ (List.mem_of_getElem? (i := 7) rfl))) (by decide) (backOf (W := 0) (rm2 l Z a0 hw [] vj17 (5 : Int32) h0 n0) hZ (hw _ (List.mem_of_getElem? (i := 7) rfl)) (hw _ (List.mem_of_getElem? (i := 2) rfl)) (by decide) (by decide)) (g := (mkF m 144 #[.val (.long q1), .second, .val (.long q2), .second, .val (.int p3), .val (.long vj17), .second, .unset] [(.int (5 : Int32)), (.long vj17)])) rfl (by rw [hml]; rfl) (argsL := [(.long vj17), (.int (5 : Int32))]) (rest := []) (lenOf pd_1 rfl) rfl (by show 2 * 0 + _ ≤ _; exact Nat.le_of_eq rfl) (hb hby at_144) (fun _ _ => ⟨rfl, e34, (by decide : 0 + 0 ≤ _), (by decide : 0 + 0 ≤ _)⟩)
            dsimp only [Pt.U, Pt.locs, Pt.cells, Pt.slots] at X36 l36 y36 z36 st36 hQ36
            subst l36 y36 z36
            obtain ⟨rfl, N36q, e36⟩ := hQ36
            have N36 := Fr.app N34 N36q
            replace X36 : Stand p l e room_1 s m _ below meth c T36 _ 0 0 := X36
            refine own_go st36 ?_
            show WP p e below _ (T36.setTop (mkF m 147 #[.val (.long q1), .second, .val (.long q2), .second, .val (.int p3), .val (.long vj17), .second, .unset] [(.int (f2 vj17 (5 : Int32)))]))
            by_cases hc147_37 : (f2 vj17 (5 : Int32)) = (0 : Int32)
            · refine own_go (fun t_ k => XS.ifYes X36.here hx rfl (pc0 := 147) (pc' := 174) rfl (hb hby at_147) rfl ((if0 _ _).trans (teq hc147_37).1) (by decide) (by decide) k) ?_
              show WP p e below _ (T36.setTop (mkF m 174 #[.val (.long q1), .second, .val (.long q2), .second, .val (.int p3), .val (.long vj17), .second, .unset] []))
              refine own_go (fun t_ k => XS.iconst X36.here hx rfl (hb hby at_174) k) ?_
              show WP p e below _ (T36.setTop (mkF m 175 #[.val (.long q1), .second, .val (.long q2), .second, .val (.int p3), .val (.long vj17), .second, .unset] [(.int (0 : Int32))]))
              exact J22 T36 _ X36 N36 e36 _ (by rw [if_neg hc102_20, if_neg hc111_29, if_neg hc120_31, if_neg hc129_33, if_neg hc138_35, if_pos hc147_37])
            · refine own_go (fun t_ k => XS.ifNo X36.here hx rfl (hb hby at_147) rfl ((if0 _ _).trans (feq hc147_37).1) k) ?_
              show WP p e below _ (T36.setTop (mkF m 150 #[.val (.long q1), .second, .val (.long q2), .second, .val (.int p3), .val (.long vj17), .second, .unset] []))
              refine own_go (fun t_ k => XS.lload X36.here hx rfl (hb hby at_150) rfl k) ?_
              show WP p e below _ (T36.setTop (mkF m 152 #[.val (.long q1), .second, .val (.long q2), .second, .val (.int p3), .val (.long vj17), .second, .unset] [(.long vj17)]))
              refine own_go (fun t_ k => XS.bipush X36.here hx rfl (hb hby at_152) k) ?_
              show WP p e below _ (T36.setTop (mkF m 154 #[.val (.long q1), .second, .val (.long q2), .second, .val (.int p3), .val (.long vj17), .second, .unset] [(.int (6 : Int32)), (.long vj17)]))
              obtain ⟨_, _, ⟨T38, L38, k38, n38⟩, -, X38, ⟨Lc38, hQ38, l38, y38, z38⟩, st38⟩ := Jvm.LawKit.callS X36 hx (y := (⟨"com/example/bittern/bittern/DigitsAllDigitsPinLaw", "digitAt", "(JI)Z"⟩ : MethodName)) hown (mvT hZ (hw _ (List.mem_of_getElem? (i := 5) rfl))) (mvT hZ (hw _ (List.mem_of_getElem? (i := 6) rfl))) (mvT hZ (hw _ (List.mem_of_getElem? (i := 2) rfl))) (mvT hZ (hw _ (List.mem_of_getElem? (i := 7) rfl))) (by decide) (backOf (W := 0) (rm2 l Z a0 hw [] vj17 (6 : Int32) h0 n0) hZ (hw _ (List.mem_of_getElem? (i := 7) rfl)) (hw _ (List.mem_of_getElem? (i := 2) rfl)) (by decide) (by decide)) (g := (mkF m 154 #[.val (.long q1), .second, .val (.long q2), .second, .val (.int p3), .val (.long vj17), .second, .unset] [(.int (6 : Int32)), (.long vj17)])) rfl (by rw [hml]; rfl) (argsL := [(.long vj17), (.int (6 : Int32))]) (rest := []) (lenOf pd_1 rfl) rfl (by show 2 * 0 + _ ≤ _; exact Nat.le_of_eq rfl) (hb hby at_154) (fun _ _ => ⟨rfl, e36, (by decide : 0 + 0 ≤ _), (by decide : 0 + 0 ≤ _)⟩)
              dsimp only [Pt.U, Pt.locs, Pt.cells, Pt.slots] at X38 l38 y38 z38 st38 hQ38
              subst l38 y38 z38
              obtain ⟨rfl, N38q, e38⟩ := hQ38
              have N38 := Fr.app N36 N38q
              replace X38 : Stand p l e room_1 s m _ below meth c T38 _ 0 0 := X38
              refine own_go st38 ?_
              show WP p e below _ (T38.setTop (mkF m 157 #[.val (.long q1), .second, .val (.long q2), .second, .val (.int p3), .val (.long vj17), .second, .unset] [(.int (f2 vj17 (6 : Int32)))]))
              by_cases hc157_39 : (f2 vj17 (6 : Int32)) = (0 : Int32)
              · refine own_go (fun t_ k => XS.ifYes X38.here hx rfl (pc0 := 157) (pc' := 174) rfl (hb hby at_157) rfl ((if0 _ _).trans (teq hc157_39).1) (by decide) (by decide) k) ?_
                show WP p e below _ (T38.setTop (mkF m 174 #[.val (.long q1), .second, .val (.long q2), .second, .val (.int p3), .val (.long vj17), .second, .unset] []))
                refine own_go (fun t_ k => XS.iconst X38.here hx rfl (hb hby at_174) k) ?_
                show WP p e below _ (T38.setTop (mkF m 175 #[.val (.long q1), .second, .val (.long q2), .second, .val (.int p3), .val (.long vj17), .second, .unset] [(.int (0 : Int32))]))
                exact J22 T38 _ X38 N38 e38 _ (by rw [if_neg hc102_20, if_neg hc111_29, if_neg hc120_31, if_neg hc129_33, if_neg hc138_35, if_neg hc147_37, if_pos hc157_39])
              · refine own_go (fun t_ k => XS.ifNo X38.here hx rfl (hb hby at_157) rfl ((if0 _ _).trans (feq hc157_39).1) k) ?_
                show WP p e below _ (T38.setTop (mkF m 160 #[.val (.long q1), .second, .val (.long q2), .second, .val (.int p3), .val (.long vj17), .second, .unset] []))
                refine own_go (fun t_ k => XS.lload X38.here hx rfl (hb hby at_160) rfl k) ?_
                show WP p e below _ (T38.setTop (mkF m 162 #[.val (.long q1), .second, .val (.long q2), .second, .val (.int p3), .val (.long vj17), .second, .unset] [(.long vj17)]))
                refine own_go (fun t_ k => XS.bipush X38.here hx rfl (hb hby at_162) k) ?_
                show WP p e below _ (T38.setTop (mkF m 164 #[.val (.long q1), .second, .val (.long q2), .second, .val (.int p3), .val (.long vj17), .second, .unset] [(.int (7 : Int32)), (.long vj17)]))
                obtain ⟨_, _, ⟨T40, L40, k40, n40⟩, -, X40, ⟨Lc40, hQ40, l40, y40, z40⟩, st40⟩ := Jvm.LawKit.callS X38 hx (y := (⟨"com/example/bittern/bittern/DigitsAllDigitsPinLaw", "digitAt", "(JI)Z"⟩ : MethodName)) hown (mvT hZ (hw _ (List.mem_of_getElem? (i := 5) rfl))) (mvT hZ (hw _ (List.mem_of_getElem? (i := 6) rfl))) (mvT hZ (hw _ (List.mem_of_getElem? (i := 2) rfl))) (mvT hZ (hw _ (List.mem_of_getElem? (i := 7) rfl))) (by decide) (backOf (W := 0) (rm2 l Z a0 hw [] vj17 (7 : Int32) h0 n0) hZ (hw _ (List.mem_of_getElem? (i := 7) rfl)) (hw _ (List.mem_of_getElem? (i := 2) rfl)) (by decide) (by decide)) (g := (mkF m 164 #[.val (.long q1), .second, .val (.long q2), .second, .val (.int p3), .val (.long vj17), .second, .unset] [(.int (7 : Int32)), (.long vj17)])) rfl (by rw [hml]; rfl) (argsL := [(.long vj17), (.int (7 : Int32))]) (rest := []) (lenOf pd_1 rfl) rfl (by show 2 * 0 + _ ≤ _; exact Nat.le_of_eq rfl) (hb hby at_164) (fun _ _ => ⟨rfl, e38, (by decide : 0 + 0 ≤ _), (by decide : 0 + 0 ≤ _)⟩)
                dsimp only [Pt.U, Pt.locs, Pt.cells, Pt.slots] at X40 l40 y40 z40 st40 hQ40
                subst l40 y40 z40
                obtain ⟨rfl, N40q, e40⟩ := hQ40
                have N40 := Fr.app N38 N40q
                replace X40 : Stand p l e room_1 s m _ below meth c T40 _ 0 0 := X40
                refine own_go st40 ?_
                show WP p e below _ (T40.setTop (mkF m 167 #[.val (.long q1), .second, .val (.long q2), .second, .val (.int p3), .val (.long vj17), .second, .unset] [(.int (f2 vj17 (7 : Int32)))]))
                by_cases hc167_41 : (f2 vj17 (7 : Int32)) = (0 : Int32)
                · refine own_go (fun t_ k => XS.ifYes X40.here hx rfl (pc0 := 167) (pc' := 174) rfl (hb hby at_167) rfl ((if0 _ _).trans (teq hc167_41).1) (by decide) (by decide) k) ?_
                  show WP p e below _ (T40.setTop (mkF m 174 #[.val (.long q1), .second, .val (.long q2), .second, .val (.int p3), .val (.long vj17), .second, .unset] []))
                  refine own_go (fun t_ k => XS.iconst X40.here hx rfl (hb hby at_174) k) ?_
                  show WP p e below _ (T40.setTop (mkF m 175 #[.val (.long q1), .second, .val (.long q2), .second, .val (.int p3), .val (.long vj17), .second, .unset] [(.int (0 : Int32))]))
                  exact J22 T40 _ X40 N40 e40 _ (by rw [if_neg hc102_20, if_neg hc111_29, if_neg hc120_31, if_neg hc129_33, if_neg hc138_35, if_neg hc147_37, if_neg hc157_39, if_pos hc167_41])
                · refine own_go (fun t_ k => XS.ifNo X40.here hx rfl (hb hby at_167) rfl ((if0 _ _).trans (feq hc167_41).1) k) ?_
                  show WP p e below _ (T40.setTop (mkF m 170 #[.val (.long q1), .second, .val (.long q2), .second, .val (.int p3), .val (.long vj17), .second, .unset] []))
                  refine own_go (fun t_ k => XS.iconst X40.here hx rfl (hb hby at_170) k) ?_
                  show WP p e below _ (T40.setTop (mkF m 171 #[.val (.long q1), .second, .val (.long q2), .second, .val (.int p3), .val (.long vj17), .second, .unset] [(.int (1 : Int32))]))
                  refine own_go (fun t_ k => XS.goto X40.here hx rfl (pc0 := 171) (pc' := 175) rfl (hb hby at_171) (by decide) (by decide) k) ?_
                  show WP p e below _ (T40.setTop (mkF m 175 #[.val (.long q1), .second, .val (.long q2), .second, .val (.int p3), .val (.long vj17), .second, .unset] [(.int (1 : Int32))]))
                  exact J22 T40 _ X40 N40 e40 _ (by rw [if_neg hc102_20, if_neg hc111_29, if_neg hc120_31, if_neg hc129_33, if_neg hc138_35, if_neg hc147_37, if_neg hc157_39, if_neg hc167_41])
set_option maxRecDepth 65536 in
set_option maxHeartbeats 40000000 in
theorem comes_1 {Post : Tables → Env → Array Value → State → Outcome → State → Prop} (hpost : ∀ tb e args s v u, (limb_1_1.after args s (.returned v) u = true ∧ limb_1_2.after args s (.returned v) u = true ∧ True) → FrameEnd s (.returned v) u (Jvm.fieldLocs frame_1_writes args s ++ Jvm.arrayLocs frame_1_arrays args s ++ Jvm.staticLocs frame_1_statics s) 0 0 → Post tb e args s (.returned v) u) :
    ArmFor flags0 classFile x code maxLocals ret World_1 tables_1 room_1 Calls_1 rest_1 Pre_1 Post := by
  intro l hfl _ _ p e ha hc hk s m args below hf hA hF happ hP
  obtain ⟨hcalls, hrest, hpre⟩ := hP
  obtain ⟨-, -, -, hnamed, -, -, -, hat⟩ := (Spec.applies_iff hf).mp happ
  obtain ⟨hg, hn⟩ := and_e (Cond.before_iff.mp (show (Jvm.Cond.and given_1 narrow_1).before args s = true from hpre))
  obtain ⟨g1, g2⟩ := and_e hg
  obtain ⟨g3, g4⟩ := and_e g2
  obtain ⟨g5, g6⟩ := and_e g4
  obtain ⟨w0, w1, w2, rfl⟩ : ∃ w0 w1 w2 : Value, args = #[w0, w1, w2] := by
    have hs : args.size = 3 := by simpa [Cond.value, given_1] using g1
    obtain ⟨L⟩ := args
    match L, hs with
    | [w0, w1, w2], _ => exact ⟨w0, w1, w2, rfl⟩
  have hw := fun d (hd : d ∈ tables_1) => atoms_spec (ws := Jvm.Cond.code x code maxLocals ret :: tables_1) hat d (List.mem_cons_of_mem _ hd)
  have hfit : Fit s := fun {y c} hc i hi => by
    obtain ⟨ha, rfl⟩ := Array.getElem?_eq_some_iff.mp hc
    have q := List.all_eq_true.mp ((Array.all_eq_true_iff_forall_mem.mp hF) _ (Array.getElem_mem ha)) i (List.mem_range.mpr hi)
    simpa [Array.getElem?_eq_getElem hi] using q
  obtain ⟨i0, ei0⟩ := isL_v g3
  obtain rfl : w0 = (.long i0) := Option.some.inj ei0
  obtain ⟨i1, ei1⟩ := isL_v g5
  obtain rfl : w1 = (.long i1) := Option.some.inj ei1
  obtain ⟨i2, ei2⟩ := is_v g6
  obtain rfl : w2 = (.int i2) := Option.some.inj ei2
  obtain ⟨n, o, h1, h2, h3, _, L, rfl, ⟨rfl, N⟩, hq⟩ := rm0 l s _ hw tables_1 i0 i1 i2 s.heap s.heap.size (Nat.le_refl _) p e ha hc hk s m _ below hf ((Spec.applies_iff_loose hf).mp happ).1 ⟨rfl, State.Warmed39.refl s, rfl⟩ trivial
  refine ⟨n, _, h1, h2, h3, hpost _ _ _ _ _ _ ⟨Cond.after_iff.mpr rfl, Cond.after_iff.mpr (eq_i res_at (Term.int_eval (1)) rfl), trivial⟩ ⟨hq.1, hq.2.1, (hq.2.2.sift fun y hy => Or.inr (N y hy)).mono (by decide) (by decide)⟩⟩
theorem main_1_1 : Claimed_1_1 := comes_1 fun _ _ _ _ _ _ h hF => ⟨h.1, hF⟩
theorem main_1_2 : Claimed_1_2 := comes_1 fun _ _ _ _ _ _ h hF => ⟨h.2.1, hF⟩
end Jvm.Pilot.@@N@@
namespace Jvm.Pilot.@@N@@
open Jvm Jvm.ClassFile Sem Op Lib Jvm.Free Jvm.Stand Jvm.Pilot.@@N@@.Jvm.D
/-! MADE BY PROGRAM (witnessworld.py) out of the Statement's table words and the real class files: 9 classes; the members and pool entries that the words name. The judged class is class 1, her method 3. -/
namespace start1
open Jvm.ClassFile
def u (s : String) : CpInfo := .utf8 (stringToUtf16 s)
/-- a pool by its gaps: so many unusable entries, then the entry; so many at the end -/
def gap : Nat → List CpInfo → List CpInfo
  | 0, r => r
  | n + 1, r => .unusable :: gap n r
def poolList (es : List (Nat × CpInfo)) (last : Nat) : List CpInfo := es.foldr (fun e r => gap e.1 (e.2 :: r)) (gap last [])
def pool (es : List (Nat × CpInfo)) (last : Nat) : Array CpInfo := ⟨poolList es last⟩
def fileOf (pool : Array CpInfo) (this : Nat) (attrs : Array Attribute := #[]) (ms : Array MethodInfo := #[]) (fl : Nat := 33) (sup : Nat := 0) (ifs : Array Nat := #[]) (fds : Array FieldInfo := #[]) : ClassFile where
  minorVersion := 0
  majorVersion := 65
  constantPool := pool
  accessFlags := fl
  thisClass := this
  superClass := sup
  interfaces := ifs
  fields := fds
  methods := ms
  attributes := attrs
def plain (name : String) (sup : Option ClassId) : Class where
  name := name
  kind := .ordinary
  loader := none
  accessFlags := 33
  super := sup
  interfaces := #[]
  cf := none
  fields := #[]
  methods := #[]
  instanceTypes := #[]
  staticTypes := #[]
  resolved := #[]
  callSites := []
  init := .initialized
  statics := none
  mirror := none

def pool0 : Array CpInfo := pool [(5, u "<init>"), (0, u "()V"), (1, .class_ 10), (1, u "java/lang/Object")] 113

def k0m0 : Method := { name := "<init>", desc := "()V", sig := { parameters := [], returnType := none }, accessFlags := 1, code := none }
/-- java/lang/Object -/
def k0 : Class := { plain "java/lang/Object" none with
  accessFlags := 33
  interfaces := #[]
  cf := some (fileOf pool0 8 #[] #[{ accessFlags := 1, nameIndex := 5, descriptorIndex := 6, attributes := #[] }] 33 0 #[] #[])
  fields := #[]
  methods := #[k0m0]
  instanceTypes := #[]
  staticTypes := #[]
  resolved := Array.replicate 124 none
  statics := none }

def pool1 : Array CpInfo := pool [(2, .class_ 4), (1, u "java/lang/Object"), (0, u "<init>"), (0, u "()V"), (0, .long 48), (1, .long 15), (1, .long 10), (1, .long 255), (1, .long 57), (1, .methodref 18 19), (0, .class_ 20), (0, .nameAndType 21 22), (0, u "com/example/bittern/bittern/DigitsAllDigitsPinLaw"), (0, u "octet"), (0, u "(JJII)J"), (0, .methodref 18 24), (0, .nameAndType 25 26), (0, u "digitAt"), (0, u "(JI)Z"), (0, .methodref 28 29), (0, .class_ 30), (0, .nameAndType 31 32), (0, u "com/example/bittern/bittern/Digits"), (0, u "allDigits"), (0, u "(J)Z"), (3, u "law"), (0, u "(JJI)Z")] 2

def k1m0 : Method := { name := "<init>", desc := "()V", sig := { parameters := [], returnType := none }, accessFlags := 2, code := none }
def k1c1 : Code := { maxStack := 6, maxLocals := 6, code := method_2_code, exceptionTable := #[], attributes := #[] }
def k1m1 : Method := { name := "octet", desc := "(JJII)J", sig := { parameters := [.long, .long, .int, .int], returnType := some .long }, accessFlags := 10, code := some k1c1 }
def k1c2 : Code := { maxStack := 4, maxLocals := 5, code := method_3_code, exceptionTable := #[], attributes := #[] }
def k1m2 : Method := { name := "digitAt", desc := "(JI)Z", sig := { parameters := [.long, .int], returnType := some .boolean }, accessFlags := 10, code := some k1c2 }
def k1c3 : Code := { maxStack := 8, maxLocals := 8, code := code, exceptionTable := #[], attributes := #[] }
def k1m3 : Method := { name := "law", desc := "(JJI)Z", sig := { parameters := [.long, .long, .int], returnType := some .boolean }, accessFlags := 9, code := some k1c3 }
/-- com/example/bittern/bittern/DigitsAllDigitsPinLaw -/
def k1 : Class := { plain "com/example/bittern/bittern/DigitsAllDigitsPinLaw" (some 0) with
  accessFlags := 49
  interfaces := #[]
  cf := some (fileOf pool1 18 #[] #[{ accessFlags := 2, nameIndex := 5, descriptorIndex := 6, attributes := #[] }, { accessFlags := 10, nameIndex := 21, descriptorIndex := 22, attributes := #[] }, { accessFlags := 10, nameIndex := 25, descriptorIndex := 26, attributes := #[] }, { accessFlags := 9, nameIndex := 36, descriptorIndex := 37, attributes := #[] }] 49 2 #[] #[])
  fields := #[]
  methods := #[k1m0, k1m1, k1m2, k1m3]
  instanceTypes := #[]
  staticTypes := #[]
  resolved := Array.replicate 40 none
  statics := none }

def pool2 : Array CpInfo := pool [(1, .class_ 2), (0, u "com/example/bittern/bittern/Digits"), (1, .class_ 6), (1, u "java/lang/Object"), (0, u "<init>"), (0, u "()V"), (32, u "TENS"), (0, u "[B"), (2, u "ONES"), (2, .long 17361641481138401520), (1, .long 3472328296227680304), (1, .long 434041037028460038), (20, u "LONG_OCTETS"), (0, u "Ljava/lang/invoke/VarHandle;"), (8, u "INT_OCTETS"), (5, u "SHORT_OCTETS"), (46, u "RADIX"), (0, u "I"), (2, u "PAIR_RADIX"), (1, u "EVERY_OCTET"), (0, u "J"), (2, u "ZEROS"), (0, u "HIGH_NIBBLES"), (0, u "LOW_NIBBLES"), (0, u "SIXES"), (0, u "EVERY_OTHER_OCTET"), (0, u "TENS_MULTIPLIER"), (0, u "TENS_SHIFT"), (0, u "PAIR_NIBBLES"), (0, u "ASCII_LIMIT"), (1, u "SHORT_WORD"), (6, u "allDigits"), (8, u "(J)Z")] 31

def k2m0 : Method := { name := "<init>", desc := "()V", sig := { parameters := [], returnType := none }, accessFlags := 2, code := none }
def k2c1 : Code := { maxStack := 4, maxLocals := 6, code := prog_5_method_10_code, exceptionTable := #[], attributes := #[] }
def k2m1 : Method := { name := "allDigits", desc := "(J)Z", sig := { parameters := [.long], returnType := some .boolean }, accessFlags := 8, code := some k2c1 }
/-- com/example/bittern/bittern/Digits -/
def k2 : Class := { plain "com/example/bittern/bittern/Digits" (some 0) with
  accessFlags := 48
  interfaces := #[]
  cf := some (fileOf pool2 1 #[] #[{ accessFlags := 2, nameIndex := 7, descriptorIndex := 8, attributes := #[] }, { accessFlags := 8, nameIndex := 163, descriptorIndex := 172, attributes := #[] }] 48 4 #[] #[{ accessFlags := 26, nameIndex := 136, descriptorIndex := 137, attributes := #[] }, { accessFlags := 24, nameIndex := 140, descriptorIndex := 137, attributes := #[] }, { accessFlags := 26, nameIndex := 41, descriptorIndex := 42, attributes := #[] }, { accessFlags := 26, nameIndex := 45, descriptorIndex := 42, attributes := #[] }, { accessFlags := 26, nameIndex := 142, descriptorIndex := 143, attributes := #[] }, { accessFlags := 26, nameIndex := 146, descriptorIndex := 143, attributes := #[] }, { accessFlags := 26, nameIndex := 147, descriptorIndex := 143, attributes := #[] }, { accessFlags := 26, nameIndex := 148, descriptorIndex := 143, attributes := #[] }, { accessFlags := 26, nameIndex := 149, descriptorIndex := 143, attributes := #[] }, { accessFlags := 26, nameIndex := 150, descriptorIndex := 143, attributes := #[] }, { accessFlags := 26, nameIndex := 151, descriptorIndex := 143, attributes := #[] }, { accessFlags := 26, nameIndex := 152, descriptorIndex := 137, attributes := #[] }, { accessFlags := 26, nameIndex := 153, descriptorIndex := 143, attributes := #[] }, { accessFlags := 26, nameIndex := 154, descriptorIndex := 137, attributes := #[] }, { accessFlags := 26, nameIndex := 156, descriptorIndex := 137, attributes := #[] }, { accessFlags := 26, nameIndex := 73, descriptorIndex := 74, attributes := #[] }, { accessFlags := 26, nameIndex := 83, descriptorIndex := 74, attributes := #[] }, { accessFlags := 26, nameIndex := 89, descriptorIndex := 74, attributes := #[] }])
  fields := #[{ name := "RADIX", type := .int, accessFlags := 26, slot := 0, constantValue := 0 }, { name := "PAIR_RADIX", type := .int, accessFlags := 24, slot := 1, constantValue := 0 }, { name := "TENS", type := (.array .byte), accessFlags := 26, slot := 2, constantValue := 0 }, { name := "ONES", type := (.array .byte), accessFlags := 26, slot := 3, constantValue := 0 }, { name := "EVERY_OCTET", type := .long, accessFlags := 26, slot := 4, constantValue := 0 }, { name := "ZEROS", type := .long, accessFlags := 26, slot := 5, constantValue := 0 }, { name := "HIGH_NIBBLES", type := .long, accessFlags := 26, slot := 6, constantValue := 0 }, { name := "LOW_NIBBLES", type := .long, accessFlags := 26, slot := 7, constantValue := 0 }, { name := "SIXES", type := .long, accessFlags := 26, slot := 8, constantValue := 0 }, { name := "EVERY_OTHER_OCTET", type := .long, accessFlags := 26, slot := 9, constantValue := 0 }, { name := "TENS_MULTIPLIER", type := .long, accessFlags := 26, slot := 10, constantValue := 0 }, { name := "TENS_SHIFT", type := .int, accessFlags := 26, slot := 11, constantValue := 0 }, { name := "PAIR_NIBBLES", type := .long, accessFlags := 26, slot := 12, constantValue := 0 }, { name := "ASCII_LIMIT", type := .int, accessFlags := 26, slot := 13, constantValue := 0 }, { name := "SHORT_WORD", type := .int, accessFlags := 26, slot := 14, constantValue := 0 }, { name := "LONG_OCTETS", type := (.object "java/lang/invoke/VarHandle"), accessFlags := 26, slot := 15, constantValue := 0 }, { name := "INT_OCTETS", type := (.object "java/lang/invoke/VarHandle"), accessFlags := 26, slot := 16, constantValue := 0 }, { name := "SHORT_OCTETS", type := (.object "java/lang/invoke/VarHandle"), accessFlags := 26, slot := 17, constantValue := 0 }]
  methods := #[k2m0, k2m1]
  instanceTypes := #[]
  staticTypes := #[.int, .int, (.array .byte), (.array .byte), .long, .long, .long, .long, .long, .long, .long, .int, .long, .int, .int, (.object "java/lang/invoke/VarHandle"), (.object "java/lang/invoke/VarHandle"), (.object "java/lang/invoke/VarHandle")]
  resolved := Array.replicate 204 none
  statics := none }

def pool3 : Array CpInfo := pool [(1, u "java/lang/Cloneable"), (0, .class_ 1), (0, u "java/lang/Object"), (0, .class_ 3)] 3

/-- java/lang/Cloneable -/
def k3 : Class := { plain "java/lang/Cloneable" (some 0) with
  accessFlags := 1537
  interfaces := #[]
  cf := some (fileOf pool3 2 #[] #[] 1537 4 #[] #[])
  fields := #[]
  methods := #[]
  instanceTypes := #[]
  staticTypes := #[]
  resolved := Array.replicate 8 none
  statics := none }

def pool4 : Array CpInfo := pool [(1, u "java/io/Serializable"), (0, .class_ 1), (0, u "java/lang/Object"), (0, .class_ 3)] 3

/-- java/io/Serializable -/
def k4 : Class := { plain "java/io/Serializable" (some 0) with
  accessFlags := 1537
  interfaces := #[]
  cf := some (fileOf pool4 2 #[] #[] 1537 4 #[] #[])
  fields := #[]
  methods := #[]
  instanceTypes := #[]
  staticTypes := #[]
  resolved := Array.replicate 8 none
  statics := none }

/-- the primitive byte -/
def k5 : Class := { plain "byte" none with kind := .primitive 'B', accessFlags := 0x411 }
/-- [B -/
def k6 : Class := { plain "[B" (some 0) with kind := .array 5 .byte, interfaces := #[3, 4], accessFlags := 1041 }

/-- the primitive int -/
def k7 : Class := { plain "int" none with kind := .primitive 'I', accessFlags := 0x411 }
/-- [I -/
def k8 : Class := { plain "[I" (some 0) with kind := .array 7 .int, interfaces := #[3, 4], accessFlags := 1041 }

def heap : Heap := #[]
def classes : Array Class := #[k0, k1, k2, k3, k4, k5, k6, k7, k8]
def interned : List (Array UInt16 × Addr) := []
def slotsUsed : Nat := 0
def theMethod : MethodId := ⟨1, 3⟩
def args0 : Array Value := #[.long 5, .long 6, .int 1]
def aboutOver (below : List Frame) : State where
  vm := { classes := classes, interned := interned.toArray }
  heap := heap
  slotsUsed := slotsUsed
  threads := #[{ frames := .invoking theMethod args0 :: below }]
def below0 : List Frame := [.native { method := ⟨0, 0⟩, args := #[] }]
def about1 : State := aboutOver below0
def p0 : Program := .bare "" "" ""
def e0 : Env := launch0.env 0 0 0
theorem w_frames : about1.frames = Frame.invoking theMethod args0 :: below0 := rfl
set_option maxRecDepth 65536 in
theorem w_args : argsFit about1.vm theMethod args0 = true := by decide +kernel
set_option maxRecDepth 65536 in
theorem w_heap : heapFits about1 = true := by decide +kernel
set_option maxRecDepth 65536 in
theorem w_runnable : about1.curStatus? = some .runnable := by decide +kernel
set_option maxRecDepth 65536 in
theorem w_alone : about1.alone = true := by decide +kernel
set_option maxRecDepth 65536 in
theorem w_named : about1.methodNamed? x = some theMethod := by decide +kernel
set_option maxRecDepth 65536 in
theorem w_hears : about1.hears theMethod below0 = true := by decide +kernel
set_option maxRecDepth 65536 in
theorem w_ripe : about1.ripe theMethod args0 below0 = true := by decide +kernel
theorem w_running : about1.status = .running := rfl
set_option maxRecDepth 65536 in
theorem w_room : about1.hasRoom e0.platform room_1 = true :=
  launch0.hasRoom_least _ room_1 (by decide +kernel) (by decide +kernel) (by decide +kernel) (by decide +kernel) (by decide +kernel) (by decide +kernel)
theorem allAtoms_all (ts : List Jvm.Cond) (a : Array Jvm.Value) (st : Jvm.State) : (allAtoms ts).before a st = ts.all (fun c => c.before a st) := by
  induction ts with
  | nil => rfl
  | cons c t ih =>
    show (Jvm.Cond.and c (allAtoms t)).before a st = _
    rw [Jvm.Cond.before_and, ih, List.all_cons]
def words1 : List Jvm.Cond := Jvm.Cond.code x code maxLocals ret :: tables_1
/-- a 'code' word, met by the world's own term for the bytes: nothing is compared byte by byte -/
theorem code_word {y : MethodName} {bytes : ByteArray} {mx : Nat} {rt : Option FieldType} {a : Array Value} {s : State} {m : MethodId} {meth : Method} {c : Code} (h1 : s.methodNamed? y = some m) (h2 : s.vm.method? m = some meth) (h3 : meth.code = some c) (h4 : c.code = bytes)
    (h5 : (c.maxLocals == mx && c.exceptionTable.isEmpty && decide (c.maxStack ≤ mostOperands) && decide (meth.sig.returnType = rt) && !meth.locks && decide (parseMethodDescriptor y.desc = some meth.sig)) = true) : (Jvm.Cond.code y bytes mx rt).before a s = true := by
  simp only [Bool.and_eq_true, beq_iff_eq, Bool.not_eq_true', decide_eq_true_eq] at h5
  obtain ⟨⟨⟨⟨⟨g1, g2⟩, g3⟩, g4⟩, g5⟩, g6⟩ := h5
  simp [Cond.before, Cond.holds, Cond.value, h1, h2, h3, h4, g1, g2, g3, g4, g5, g6]
def isCode : Jvm.Cond → Bool
  | .code _ _ _ _ => true
  | _ => false
theorem all_split {L : List Jvm.Cond} {P : Jvm.Cond → Bool} (h1 : L.all (fun c => isCode c || P c) = true) (h2 : ∀ c ∈ L.filter isCode, P c = true) : L.all P = true := by
  refine List.all_eq_true.mpr fun c hc => ?_
  have h := List.all_eq_true.mp h1 c hc
  rcases Bool.eq_false_or_eq_true (isCode c) with hi | hi
  · exact h2 c (List.mem_filter.mpr ⟨hc, hi⟩)
  · simpa [hi] using h
set_option maxRecDepth 65536 in
theorem w_c0 : (Jvm.Cond.code x code maxLocals ret).before args0 about1 = true := code_word (m := ⟨1, 3⟩) (meth := k1m3) (c := k1c3) (by decide +kernel) rfl rfl rfl (by decide +kernel)
set_option maxRecDepth 65536 in
theorem w_c1 : (Jvm.Cond.code ({ cls := "com/example/bittern/bittern/DigitsAllDigitsPinLaw", name := "octet", desc := "(JJII)J" } : Jvm.MethodName) method_2_code (6 : Nat) (Option.some Jvm.ClassFile.FieldType.long)).before args0 about1 = true := code_word (m := ⟨1, 1⟩) (meth := k1m1) (c := k1c1) (by decide +kernel) rfl rfl rfl (by decide +kernel)
set_option maxRecDepth 65536 in
theorem w_c2 : (Jvm.Cond.code ({ cls := "com/example/bittern/bittern/DigitsAllDigitsPinLaw", name := "digitAt", desc := "(JI)Z" } : Jvm.MethodName) method_3_code (5 : Nat) (Option.some Jvm.ClassFile.FieldType.boolean)).before args0 about1 = true := code_word (m := ⟨1, 2⟩) (meth := k1m2) (c := k1c2) (by decide +kernel) rfl rfl rfl (by decide +kernel)
set_option maxRecDepth 65536 in
theorem w_c3 : (Jvm.Cond.code ({ cls := "com/example/bittern/bittern/Digits", name := "allDigits", desc := "(J)Z" } : Jvm.MethodName) prog_5_method_10_code (6 : Nat) (Option.some Jvm.ClassFile.FieldType.boolean)).before args0 about1 = true := code_word (m := ⟨2, 1⟩) (meth := k2m1) (c := k2c1) (by decide +kernel) rfl rfl rfl (by decide +kernel)
def codes1 : List Jvm.Cond := [Jvm.Cond.code x code maxLocals ret, Jvm.Cond.code ({ cls := "com/example/bittern/bittern/DigitsAllDigitsPinLaw", name := "octet", desc := "(JJII)J" } : Jvm.MethodName) method_2_code (6 : Nat) (Option.some Jvm.ClassFile.FieldType.long), Jvm.Cond.code ({ cls := "com/example/bittern/bittern/DigitsAllDigitsPinLaw", name := "digitAt", desc := "(JI)Z" } : Jvm.MethodName) method_3_code (5 : Nat) (Option.some Jvm.ClassFile.FieldType.boolean), Jvm.Cond.code ({ cls := "com/example/bittern/bittern/Digits", name := "allDigits", desc := "(J)Z" } : Jvm.MethodName) prog_5_method_10_code (6 : Nat) (Option.some Jvm.ClassFile.FieldType.boolean)]
set_option maxRecDepth 65536 in
theorem codes_eq : words1.filter isCode = codes1 := rfl
theorem w_codes : ∀ c ∈ words1.filter isCode, c.before args0 about1 = true := by
  rw [codes_eq]
  intro c hc
  simp only [codes1, List.mem_cons, List.not_mem_nil, or_false] at hc
  rcases hc with rfl | rfl | rfl | rfl
  · exact w_c0
  · exact w_c1
  · exact w_c2
  · exact w_c3
set_option maxRecDepth 65536 in
theorem w_t1 : words1.all (fun c => isCode c || c.before args0 about1) = true := by decide +kernel
theorem w_tables : (allAtoms (Jvm.Cond.code x code maxLocals ret :: tables_1)).before args0 about1 = true := by
  rw [allAtoms_all]
  show words1.all (fun c => c.before args0 about1) = true
  refine all_split ?_ w_codes
  rw [w_t1]
set_option maxRecDepth 65536 in
theorem w_case : (Jvm.Cond.and given_1 narrow_1).before args0 about1 = true := by decide +kernel
theorem w_applies : (headSpec (Jvm.Cond.code x code maxLocals ret :: tables_1) room_1).applies x e0.platform about1 = true :=
  (Spec.applies_iff w_frames).mpr ⟨w_running, w_runnable, w_alone, w_named, w_hears, w_ripe, w_room, w_tables⟩
theorem atStart : AtStart classFile x code maxLocals ret World_1 tables_1 room_1 Calls_1 rest_1 Pre_1 launch0 p0 e0 about1 theMethod args0 below0 :=
  ⟨lists_1, trivial, launch0.admits_env _ _ _, launch0.least_env, fairChoices_fair.cas, fairChoices_fair.clock, w_frames, w_args, w_heap, w_applies, trivial, trivial, w_case⟩
end start1
theorem witness_1 : WitnessClaimed_1 := ⟨start1.p0, start1.e0, start1.about1, start1.theMethod, start1.args0, start1.below0, start1.atStart⟩
end Jvm.Pilot.@@N@@
