import JvmDerived
import JvmDerived.Pilot.@@N@@Statement
import JvmDerived.Pilot.@@N@@Code
set_option linter.unusedVariables false
set_option linter.unusedSimpArgs false
namespace Jvm.Pilot.@@N@@
open Jvm Jvm.ClassFile Sem Op Lib Jvm.Free Jvm.Stand Jvm.LawKit Jvm.RoadKit Bundle Jvm.Pilot.@@N@@.Jvm.D
/-! The end of a walk, as a goal: from U the run ends, and G holds of the end. -/
def WP (p : Program) (e : Env) (below : List Frame) (G : State → Outcome → Prop) (U : State) : Prop :=
  ∃ s₂ o, Steps p.tables e below U s₂ ∧ s₂.status = .running ∧ Ended s₂ below o ∧ G s₂ o
def GG (Q : Option Value → Heap → List Loc → Prop) (s : State) (k n : Nat) : State → Outcome → Prop :=
  fun t o => ∃ v L, o = .returned v ∧ Q v t.heap L ∧ FrameEnd s o t L k n
theorem own_go {p : Program} {e : Env} {below : List Frame} {G : State → Outcome → Prop} {U V : State} (h : ∀ t, Steps p.tables e below V t → Steps p.tables e below U t) (w : WP p e below G V) : WP p e below G U := by
  obtain ⟨t, o, h1, h2⟩ := w
  exact ⟨t, o, h _ h1, h2⟩
/-- what a body that writes nothing leaves -/
def PQ (h0 : Heap) (n0 : Nat) (w : Value) (v : Option Value) (h : Heap) (L : List Loc) : Prop := v = some w ∧ Fr n0 L ∧ h = h0
/-- what the law leaves -/
def Q0 (n0 : Nat) (v : Option Value) (h : Heap) (L : List Loc) : Prop := v = some (.int 1) ∧ Fr n0 L
section Own
variable {p : Program} {l : Launch} {e : Env} {R : Room} {s : State} {m : MethodId} {args : Array Value} {below : List Frame} {meth : Method} {c : Code} {T : State} {locs : List Loc} {cells slots : Nat}
theorem own_mono (X : Stand p l e R s m args below meth c T locs cells slots) {k n : Nat} (h1 : cells ≤ k) (h2 : slots ≤ n) : Stand p l e R s m args below meth c T locs k n :=
  ⟨X.admits, X.cas, X.clock, X.frames, X.room, X.hears, X.method, X.code, X.here, X.tail, X.warmed, X.limits, X.bytes, X.same.mono h1 h2⟩
theorem own_retI (X : Stand p l e R s m args below meth c T locs cells slots) (hx : p.tables.exec = Jvm.exec) (hnl : meth.locks = false) (hret : meth.sig.returnType = some .int) {pc : Nat} {Ls : Array Slot} {z : Int32} {rest : List Value} (hd : decode c.code pc = .ok (.ireturn, 1)) {Q : Option Value → Heap → List Loc → Prop} {k n : Nat}
    (hq : Q (some (.int z)) T.heap locs) (hc : cells ≤ k) (hs : slots ≤ n) : WP p e below (GG Q s k n) (T.setTop (mkF m pc Ls (.int z :: rest))) := by
  obtain ⟨fs, hr, hrun, hended, hW, hsame⟩ := X.leave (v := some (.int z)) (fun h => by rw [hret] at h; cases h) hnl
  exact ⟨_, _, retOut X hx hret rfl (Or.inl ⟨rfl, Or.inl rfl, z, rfl⟩) hd hr, hrun, hended, _, _, rfl, hq, ⟨_, rfl⟩, hW, hsame.mono hc hs⟩
theorem own_retN (X : Stand p l e R s m args below meth c T locs cells slots) (hx : p.tables.exec = Jvm.exec) (hnl : meth.locks = false) {t : FieldType} (hret : meth.sig.returnType = some t) (ht : t = .boolean ∨ t = .byte ∨ t = .char ∨ t = .short) {pc : Nat} {Ls : Array Slot} {z : Int32} {rest : List Value} (hd : decode c.code pc = .ok (.ireturn, 1)) {Q : Option Value → Heap → List Loc → Prop} {k n : Nat}
    (hq : Q (some (.int (nar t z))) T.heap locs) (hc : cells ≤ k) (hs : slots ≤ n) : WP p e below (GG Q s k n) (T.setTop (mkF m pc Ls (.int z :: rest))) := by
  obtain ⟨fs, hr, hrun, hended, hW, hsame⟩ := X.leave (v := some (.int (nar t z))) (fun h => by rw [hret] at h; cases h) hnl
  exact ⟨_, _, retN X hx hret ht hd hr, hrun, hended, _, _, rfl, hq, ⟨_, rfl⟩, hW, hsame.mono hc hs⟩
theorem own_retZ (X : Stand p l e R s m args below meth c T locs cells slots) (hx : p.tables.exec = Jvm.exec) (hnl : meth.locks = false) (hret : meth.sig.returnType = some .boolean) {pc : Nat} {Ls : Array Slot} {z : Int32} {rest : List Value} (hd : decode c.code pc = .ok (.ireturn, 1)) (hz : z = 0 ∨ z = 1) {Q : Option Value → Heap → List Loc → Prop} {k n : Nat}
    (hq : Q (some (.int z)) T.heap locs) (hc : cells ≤ k) (hs : slots ≤ n) : WP p e below (GG Q s k n) (T.setTop (mkF m pc Ls (.int z :: rest))) := by
  have hb : nar .boolean z = z := by rcases hz with rfl | rfl <;> rfl
  exact own_retN X hx hnl hret (Or.inl rfl) hd (by rw [hb]; exact hq) hc hs
theorem own_retC (X : Stand p l e R s m args below meth c T locs cells slots) (hx : p.tables.exec = Jvm.exec) (hnl : meth.locks = false) (hret : meth.sig.returnType = some .char) {pc : Nat} {Ls : Array Slot} {z : Int32} {rest : List Value} (hd : decode c.code pc = .ok (.ireturn, 1)) {Q : Option Value → Heap → List Loc → Prop} {k n : Nat}
    (hq : Q (some (.int z.toUInt32.toUInt16.toUInt32.toInt32)) T.heap locs) (hc : cells ≤ k) (hs : slots ≤ n) : WP p e below (GG Q s k n) (T.setTop (mkF m pc Ls (.int z :: rest))) :=
  own_retN X hx hnl hret (Or.inr (Or.inr (Or.inl rfl))) hd hq hc hs
theorem own_retB (X : Stand p l e R s m args below meth c T locs cells slots) (hx : p.tables.exec = Jvm.exec) (hnl : meth.locks = false) (hret : meth.sig.returnType = some .byte) {pc : Nat} {Ls : Array Slot} {z : Int32} {rest : List Value} (hd : decode c.code pc = .ok (.ireturn, 1)) {Q : Option Value → Heap → List Loc → Prop} {k n : Nat}
    (hq : Q (some (.int z.toInt8.toInt32)) T.heap locs) (hc : cells ≤ k) (hs : slots ≤ n) : WP p e below (GG Q s k n) (T.setTop (mkF m pc Ls (.int z :: rest))) :=
  own_retN X hx hnl hret (Or.inr (Or.inl rfl)) hd hq hc hs
theorem own_retJ (X : Stand p l e R s m args below meth c T locs cells slots) (hx : p.tables.exec = Jvm.exec) (hnl : meth.locks = false) (hret : meth.sig.returnType = some .long) {pc : Nat} {Ls : Array Slot} {z : Int64} {rest : List Value} (hd : decode c.code pc = .ok (.lreturn, 1)) {Q : Option Value → Heap → List Loc → Prop} {k n : Nat}
    (hq : Q (some (.long z)) T.heap locs) (hc : cells ≤ k) (hs : slots ≤ n) : WP p e below (GG Q s k n) (T.setTop (mkF m pc Ls (.long z :: rest))) := by
  obtain ⟨fs, hr, hrun, hended, hW, hsame⟩ := X.leave (v := some (.long z)) (fun h => by rw [hret] at h; cases h) hnl
  exact ⟨_, _, retOut X hx hret rfl (Or.inr (Or.inl ⟨rfl, rfl, z, rfl⟩)) hd hr, hrun, hended, _, _, rfl, hq, ⟨_, rfl⟩, hW, hsame.mono hc hs⟩
theorem own_retA (X : Stand p l e R s m args below meth c T locs cells slots) (hx : p.tables.exec = Jvm.exec) (hnl : meth.locks = false) {t : FieldType} (hret : meth.sig.returnType = some t) (ht : t.isReference = true) {pc : Nat} {Ls : Array Slot} {w : Value} (hw : w.isRef = true) {rest : List Value} (hd : decode c.code pc = .ok (.areturn, 1)) {Q : Option Value → Heap → List Loc → Prop} {k n : Nat}
    (hq : Q (some w) T.heap locs) (hc : cells ≤ k) (hs : slots ≤ n) : WP p e below (GG Q s k n) (T.setTop (mkF m pc Ls (w :: rest))) := by
  obtain ⟨fs, hr, hrun, hended, hW, hsame⟩ := X.leave (v := some w) (fun h => by rw [hret] at h; cases h) hnl
  have hn : narrow t w = w := by cases t <;> first | rfl | (simp [FieldType.isReference] at ht)
  exact ⟨_, _, retOut X hx hret hn (Or.inr (Or.inr (Or.inr (Or.inr ⟨rfl, ht, hw⟩)))) hd hr, hrun, hended, _, _, rfl, hq, ⟨_, rfl⟩, hW, hsame.mono hc hs⟩
theorem own_ret0 (X : Stand p l e R s m args below meth c T locs cells slots) (hx : p.tables.exec = Jvm.exec) (hnl : meth.locks = false) (hret : meth.sig.returnType = none) {pc : Nat} {Ls : Array Slot} (hd : decode c.code pc = .ok (.return_, 1)) {Q : Option Value → Heap → List Loc → Prop} {k n : Nat}
    (hq : Q none T.heap locs) (hc : cells ≤ k) (hs : slots ≤ n) : WP p e below (GG Q s k n) (T.setTop (mkF m pc Ls [])) := by
  obtain ⟨fs, hr, hrun, hended, hW, hsame⟩ := X.leave (v := none) (fun _ => rfl) hnl
  exact ⟨_, _, X.returnOut hx hret hd hr, hrun, hended, _, _, rfl, hq, ⟨_, rfl⟩, hW, hsame.mono hc hs⟩
/-- a call's end without equations -/
theorem own_un (X : Stand p l e R s m args below meth c T locs cells slots) (a b : Nat) {Wv : Vm → Prop} {Q : Option Value → Heap → List Loc → Prop} {St : Option Value → Pt → Prop}
    (h : ∃ (v : Option Value) (vm₁ : Vm) (B : Pt), Wv vm₁ ∧ Stand p l e R s m args below meth c B.U B.locs B.cells B.slots ∧ (∃ L, Q v B.U.heap L ∧ B.locs = locs ++ L ∧ B.cells = cells + a ∧ B.slots = slots + b) ∧ St v B) :
    ∃ (v : Option Value) (T' : State) (L : List Loc), Stand p l e R s m args below meth c T' (locs ++ L) (cells + a) (slots + b) ∧ Q v T'.heap L ∧ St v ⟨T', locs ++ L, cells + a, slots + b⟩ := by
  obtain ⟨v, vm₁, ⟨T', L', k', n'⟩, -, X', ⟨L, hq, h1, h2, h3⟩, hs⟩ := h
  replace h1 : L' = locs ++ L := h1
  replace h2 : k' = cells + a := h2
  replace h3 : n' = slots + b := h3
  subst h1 h2 h3
  exact ⟨v, T', L, X', hq, hs⟩
end Own

def tT (k : Nat) : Int32 := Int32.ofNat (48 + k / 10)
def tO (k : Nat) : Int32 := Int32.ofNat (48 + k % 10)
def TL : List Int32 := (List.range 100).map tT
def OL : List Int32 := (List.range 100).map tO
def powL : List Int32 := [1, 10, 100, 1000, 10000, 100000, 1000000, 10000000, 100000000, 1000000000]
def putL (P : Nat) : List Int32 → Nat → Nat → List Int32
  | xs, _, 0 => xs
  | xs, N, m + 1 => putL P ((xs.set (P + 2 * m) (tT (N % 100))).set (P + 2 * m + 1) (tO (N % 100))) (N / 100) m
theorem own_at (xs : List Int32) (i : Nat) : (xs.map Value.int).getD i (.int (0 : Int32)) = .int (xs.getD i 0) := by
  rw [List.getD_eq_getElem?_getD, List.getD_eq_getElem?_getD, List.getElem?_map]
  cases xs[i]? <;> rfl
theorem own_TL (k : Nat) (h : k < 100) : TL.getD k 0 = tT k := by simp [TL, List.getD_eq_getElem?_getD, h]
theorem own_OL (k : Nat) (h : k < 100) : OL.getD k 0 = tO k := by simp [OL, List.getD_eq_getElem?_getD, h]
theorem own_small (n : Nat) (h : n < 128) : (Int32.ofNat n).toInt8.toInt32 = Int32.ofNat n := by
  have : ∀ n : Fin 128, (Int32.ofNat n.val).toInt8.toInt32 = Int32.ofNat n.val := by decide +kernel
  exact this ⟨n, h⟩
theorem own_nT (k : Nat) (h : k < 100) : (tT k).toInt8.toInt32 = tT k := own_small _ (by omega)
theorem own_nO (k : Nat) (h : k < 100) : (tO k).toInt8.toInt32 = tO k := own_small _ (by omega)
theorem own_b8 (x : Int32) : x.toInt8.toInt32.toInt8.toInt32 = x.toInt8.toInt32 := by
  have a1 := c_i2b x
  have a2 := c_i2b x.toInt8.toInt32
  exact Int32.toInt_inj.mp (by omega)
theorem own_pair {r : Int32} (h : 0 ≤ r.toInt) : (r % (100 : Int32)).toNatClampNeg = r.toInt.toNat % 100 ∧ (¬ (r % (100 : Int32)) < 0 ∧ (r % (100 : Int32)) < (100 : Int32)) ∧ r.toInt.toNat % 100 < 100 := by
  have a := (c_irem r 100 100 rfl).1 h
  have o0 : (0 : Int32).toInt = 0 := rfl
  have o1 : (100 : Int32).toInt = 100 := rfl
  simp only [Int32.lt_iff_toInt_lt, Int32.toNatClampNeg]
  omega
theorem own_tl {r : Int32} (h : 0 ≤ r.toInt) : (TL.map Value.int).getD (r % (100 : Int32)).toNatClampNeg (.int (0 : Int32)) = .int (tT (r.toInt.toNat % 100)) := by
  rw [own_at, (own_pair h).1, own_TL _ (own_pair h).2.2]
theorem own_ol {r : Int32} (h : 0 ≤ r.toInt) : (OL.map Value.int).getD (r % (100 : Int32)).toNatClampNeg (.int (0 : Int32)) = .int (tO (r.toInt.toNat % 100)) := by
  rw [own_at, (own_pair h).1, own_OL _ (own_pair h).2.2]
theorem own_set2 (xs : List Int32) (i : Nat) (a b : Int32) (hi : i + 1 < xs.length) (j : Nat) : ((xs.set i a).set (i + 1) b).getD j 0 = if j = i then a else if j = i + 1 then b else xs.getD j 0 := by
  simp only [List.getD_eq_getElem?_getD]
  by_cases c1 : j = i
  · subst c1
    rw [if_pos rfl, List.getElem?_set_ne (by omega), List.getElem?_set_self (by omega)]; rfl
  · rw [if_neg c1]
    by_cases c2 : j = i + 1
    · subst c2
      rw [if_pos rfl, List.getElem?_set_self (by simp; omega)]; rfl
    · rw [if_neg c2, List.getElem?_set_ne (by omega), List.getElem?_set_ne (by omega)]
theorem putL_len (P : Nat) : ∀ (m : Nat) (xs : List Int32) (N : Nat), (putL P xs N m).length = xs.length
  | 0, _, _ => rfl
  | m + 1, xs, N => by rw [putL, putL_len P m]; simp
theorem putL_at (P : Nat) : ∀ (m : Nat) (xs : List Int32) (N j : Nat), P + 2 * m ≤ xs.length → (putL P xs N m).getD j 0 = if P ≤ j ∧ j < P + 2 * m then Int32.ofNat (48 + N / 10 ^ (P + 2 * m - 1 - j) % 10) else xs.getD j 0
  | 0, xs, N, j, _ => by rw [putL, if_neg (by omega)]
  | m + 1, xs, N, j, h => by
    rw [putL, putL_at P m _ _ j (by simp; omega)]
    by_cases c1 : P ≤ j ∧ j < P + 2 * m
    · rw [if_pos c1, if_pos (by omega), show P + 2 * (m + 1) - 1 - j = 2 + (P + 2 * m - 1 - j) by omega, Nat.pow_add, Nat.div_div_eq_div_mul]
    · rw [if_neg c1, own_set2 _ _ _ _ (by omega)]
      by_cases c2 : j = P + 2 * m
      · rw [if_pos c2, if_pos (by omega), show P + 2 * (m + 1) - 1 - j = 1 by omega, tT]
        congr 2; omega
      · rw [if_neg c2]
        by_cases c3 : j = P + 2 * m + 1
        · rw [if_pos c3, if_pos (by omega), show P + 2 * (m + 1) - 1 - j = 0 by omega, tO]
          congr 2; omega
        · rw [if_neg c3, if_neg (by omega)]
theorem own_sta_keep {Z : State} {h h' : Heap} {C n d : String} {v : Value} {a : Addr} {k : ClassId} {ty : FieldType} {z : Int32} {vs : List Value} {dv : Value} (S : Sta Z h C n d v) (K : Keep h h' [a]) (V : Arv Z h a k ty z vs dv) : Sta Z h' C n d v := by
  obtain ⟨cf, i, kk, f, st, cell, h1, h2, h3, h4, h5, h6, h7⟩ := S
  obtain ⟨c, A, -⟩ := V
  have ne : st ≠ a := fun q => by
    subst q
    cases A.1.symm.trans h5
    rw [A.plain] at h6; cases h6
  exact ⟨cf, i, kk, f, st, cell, h1, h2, h3, h4, K.2.1 st cell h5 (ninS ne nin0), h6, h7⟩
theorem own_i0 {p w : Int32} {P M : Nat} (hP : p.toInt = P) (hP3 : P ≤ 3) (hM : w.toInt = 2 * (M : Int)) (hM5 : M ≤ 5) : ((p + w) - (2 : Int32)).toInt = (P : Int) + 2 * (M : Int) - 2 ∧ (p + w).toInt = (P : Int) + 2 * (M : Int) := by
  have a1 := c_iadd p w
  have a2 := c_isub (p + w) 2
  have o : (2 : Int32).toInt = 2 := rfl
  have r1 := rng32 (p + w)
  have r2 := rng32 ((p + w) - 2)
  omega
theorem own_ix {i : Int32} {P k : Nat} (hP3 : P ≤ 3) (hk : k < 5) (h : i.toInt = (P : Int) + 2 * ((k + 1 : Nat) : Int) - 2) : i.toNatClampNeg = P + 2 * k ∧ (i + (1 : Int32)).toNatClampNeg = P + 2 * k + 1 ∧ (¬ i < 0 ∧ i < (16 : Int32)) ∧ (¬ (i + (1 : Int32)) < 0 ∧ (i + (1 : Int32)) < (16 : Int32)) ∧ (i + (-2 : Int32)).toInt = (P : Int) + 2 * (k : Int) - 2 := by
  have a1 := c_iadd i 1
  have a2 := c_iadd i (-2)
  have o0 : (0 : Int32).toInt = 0 := rfl
  have o1 : (1 : Int32).toInt = 1 := rfl
  have o2 : (-2 : Int32).toInt = -2 := rfl
  have o3 : (16 : Int32).toInt = 16 := rfl
  have r1 := rng32 (i + 1)
  have r2 := rng32 (i + (-2))
  simp only [Int32.lt_iff_toInt_lt, Int32.toNatClampNeg]
  omega
theorem own_div {r : Int32} (h : 0 ≤ r.toInt) : (r / (100 : Int32)).toInt.toNat = r.toInt.toNat / 100 ∧ 0 ≤ (r / (100 : Int32)).toInt := by
  have a := (c_idiv r 100 100 rfl (by decide)).1 h
  omega
def Q_rm1 (Z : State) (a1 : Addr) (p2 : Int32) (p3 : Int32) (p4 : Int32) (kA : ClassId) (tt : Addr) (kt : ClassId) (to : Addr) (ko : ClassId) (xs : List Int32) (P : Nat) (M : Nat) (h0 : Heap) (n0 : Nat) (v : Option Value) (h : Heap) (L : List Loc) : Prop := v = some (.int (p2 + p4)) ∧ Fr n0 L ∧ Keep h0 h [a1] ∧ Arv Z h a1 kA .byte (16 : Int32) ((putL P xs p3.toInt.toNat M).map Value.int) (.int (0 : Int32))
theorem d1_0 : decode prog_5_method_8_code 0 = .ok (.iload_n 2, 1) := by decide +kernel
theorem d1_1 : decode prog_5_method_8_code 1 = .ok (.istore 4, 2) := by decide +kernel
theorem d1_3 : decode prog_5_method_8_code 3 = .ok (.iload_n 1, 1) := by decide +kernel
theorem d1_4 : decode prog_5_method_8_code 4 = .ok (.iload_n 3, 1) := by decide +kernel
theorem d1_5 : decode prog_5_method_8_code 5 = .ok (.iadd, 1) := by decide +kernel
theorem d1_6 : decode prog_5_method_8_code 6 = .ok (.istore 5, 2) := by decide +kernel
theorem d1_8 : decode prog_5_method_8_code 8 = .ok (.iload 5, 2) := by decide +kernel
theorem d1_10 : decode prog_5_method_8_code 10 = .ok (.iconst 2, 1) := by decide +kernel
theorem d1_11 : decode prog_5_method_8_code 11 = .ok (.isub, 1) := by decide +kernel
theorem d1_12 : decode prog_5_method_8_code 12 = .ok (.istore 6, 2) := by decide +kernel
theorem d1_14 : decode prog_5_method_8_code 14 = .ok (.iload 6, 2) := by decide +kernel
theorem d1_16 : decode prog_5_method_8_code 16 = .ok (.iload_n 1, 1) := by decide +kernel
theorem d1_17 : decode prog_5_method_8_code 17 = .ok (.if_icmp .lt 45, 3) := by decide +kernel
theorem d1_20 : decode prog_5_method_8_code 20 = .ok (.iload 4, 2) := by decide +kernel
theorem d1_22 : decode prog_5_method_8_code 22 = .ok (.bipush 100, 2) := by decide +kernel
theorem d1_24 : decode prog_5_method_8_code 24 = .ok (.irem, 1) := by decide +kernel
theorem d1_25 : decode prog_5_method_8_code 25 = .ok (.istore 7, 2) := by decide +kernel
theorem d1_27 : decode prog_5_method_8_code 27 = .ok (.aload_n 0, 1) := by decide +kernel
theorem d1_28 : decode prog_5_method_8_code 28 = .ok (.iload 6, 2) := by decide +kernel
theorem d1_30 : decode prog_5_method_8_code 30 = .ok (.getstatic 39, 3) := by decide +kernel
theorem d1_33 : decode prog_5_method_8_code 33 = .ok (.iload 7, 2) := by decide +kernel
theorem d1_35 : decode prog_5_method_8_code 35 = .ok (.baload, 1) := by decide +kernel
theorem d1_36 : decode prog_5_method_8_code 36 = .ok (.bastore, 1) := by decide +kernel
theorem d1_37 : decode prog_5_method_8_code 37 = .ok (.aload_n 0, 1) := by decide +kernel
theorem d1_38 : decode prog_5_method_8_code 38 = .ok (.iload 6, 2) := by decide +kernel
theorem d1_40 : decode prog_5_method_8_code 40 = .ok (.iconst 1, 1) := by decide +kernel
theorem d1_41 : decode prog_5_method_8_code 41 = .ok (.iadd, 1) := by decide +kernel
theorem d1_42 : decode prog_5_method_8_code 42 = .ok (.getstatic 43, 3) := by decide +kernel
theorem d1_45 : decode prog_5_method_8_code 45 = .ok (.iload 7, 2) := by decide +kernel
theorem d1_47 : decode prog_5_method_8_code 47 = .ok (.baload, 1) := by decide +kernel
theorem d1_48 : decode prog_5_method_8_code 48 = .ok (.bastore, 1) := by decide +kernel
theorem d1_49 : decode prog_5_method_8_code 49 = .ok (.iload 4, 2) := by decide +kernel
theorem d1_51 : decode prog_5_method_8_code 51 = .ok (.bipush 100, 2) := by decide +kernel
theorem d1_53 : decode prog_5_method_8_code 53 = .ok (.idiv, 1) := by decide +kernel
theorem d1_54 : decode prog_5_method_8_code 54 = .ok (.istore 4, 2) := by decide +kernel
theorem d1_56 : decode prog_5_method_8_code 56 = .ok (.iinc 6 (-2), 3) := by decide +kernel
theorem d1_59 : decode prog_5_method_8_code 59 = .ok (.goto (-45), 3) := by decide +kernel
theorem d1_62 : decode prog_5_method_8_code 62 = .ok (.iload 5, 2) := by decide +kernel
theorem d1_64 : decode prog_5_method_8_code 64 = .ok (.ireturn, 1) := by decide +kernel
theorem pn_0 : plainName "com/example/bittern/bittern/Digits" = true := by first | (simp [plainName, overriddenIn]; done) | decide +kernel
theorem ef_rm1 (m : MethodId) (x0 : Addr) (x1 : Int32) (x2 : Int32) (x3 : Int32) : entryFrame m #[(.ref x0), (.int x1), (.int x2), (.int x3)] 8 = mkF m 0 #[.val (.ref x0), .val (.int x1), .val (.int x2), .val (.int x3), .unset, .unset, .unset, .unset] [] := by first | (simp [entryFrame, mkF, argsToLocals, Value.category]; done) | rfl
set_option maxRecDepth 65536 in
set_option maxHeartbeats 40000000 in
theorem rm1 (l : Launch) (Z : State) (a0 : Array Value) (hw : ∀ d ∈ tables_1, d.before a0 Z = true) (ws : List Jvm.Cond) (a1 : Addr) (p2 : Int32) (p3 : Int32) (p4 : Int32) (kA : ClassId) (tt : Addr) (kt : ClassId) (to : Addr) (ko : ClassId) (xs : List Int32) (P : Nat) (M : Nat) (h0 : Heap) (n0 : Nat) (V_a : Arv Z h0 a1 kA .byte (16 : Int32) (xs.map Value.int) (.int (0 : Int32))) (hxl : xs.length = 16) (g_a : n0 ≤ a1) (S_t : Sta Z h0 "com/example/bittern/bittern/Digits" "TENS" "[B" (.ref tt)) (V_t : Arv Z h0 tt kt .byte (100 : Int32) (TL.map Value.int) (.int (0 : Int32))) (S_o : Sta Z h0 "com/example/bittern/bittern/Digits" "ONES" "[B" (.ref to)) (V_o : Arv Z h0 to ko .byte (100 : Int32) (OL.map Value.int) (.int (0 : Int32))) (ne_t : tt ≠ a1) (ne_o : to ≠ a1) (hP : p2.toInt = (P : Int)) (hP3 : P ≤ 3) (hM : p4.toInt = 2 * (M : Int)) (hM5 : M ≤ 5) (hN : 0 ≤ p3.toInt) :
    MetFree l (⟨"com/example/bittern/bittern/Digits", "put", "([BIII)I"⟩ : MethodName) (head1 (Jvm.Cond.code (⟨"com/example/bittern/bittern/Digits", "put", "([BIII)I"⟩ : MethodName) prog_5_method_8_code 8 (some .int) :: ws) ({ frames := 0, cells := 0, slots := 0, locals := 0 } : Room)) (fun a U => a = #[(.ref a1), (.int p2), (.int p3), (.int p4)] ∧ Z.Warmed39 U.vm ∧ U.heap = h0) (fun _ _ _ _ _ => True) (fun _ U o U' => ∃ v L, o = .returned v ∧ (Q_rm1 Z a1 p2 p3 p4 kA tt kt to ko xs P M h0 n0) v U'.heap L ∧ FrameEnd U o U' L ({ frames := 0, cells := 0, slots := 0, locals := 0 } : Room).cells ({ frames := 0, cells := 0, slots := 0, locals := 0 } : Room).slots) := by
  refine MetFree.of_bodySF (plainFor_of_name pn_0) hisR ?_
  intro p e s m args below meth c s₁ Bd hml0 hP hK
  obtain ⟨rfl, hZ, hh⟩ := hP
  have hx := Bd.exec
  have hby := Bd.bytes
  have hml : c.maxLocals = 8 := hml0
  have hown : s.vm.findClass "com/example/bittern/bittern/Digits" = some m.cls := findClass_of_methodNamed Bd.named
  have hnm := (name_of_methodNamed Bd.named Bd.method).1
  have X0 : Stand p l e ({ frames := 0, cells := 0, slots := 0, locals := 0 } : Room) s m #[(.ref a1), (.int p2), (.int p3), (.int p4)] below meth c s₁ [] 0 0 := Stand.of_body Bd
  have e0 : s₁.heap = h0 := by rw [← hh, Bd.state]; rfl
  have N0 := Fr.nil n0
  show WP p e below (GG (Q_rm1 Z a1 p2 p3 p4 kA tt kt to ko xs P M h0 n0) s ({ frames := 0, cells := 0, slots := 0, locals := 0 } : Room).cells ({ frames := 0, cells := 0, slots := 0, locals := 0 } : Room).slots) (s₁.setTop (entryFrame m #[(.ref a1), (.int p2), (.int p3), (.int p4)] 8))
  rw [ef_rm1 m a1 p2 p3 p4]
  show WP p e below _ (s₁.setTop (mkF m 0 #[.val (.ref a1), .val (.int p2), .val (.int p3), .val (.int p4), .unset, .unset, .unset, .unset] []))
  refine own_go (fun t_ k => XS.iloadN X0.here hx rfl (hb hby d1_0) rfl k) ?_
  show WP p e below _ (s₁.setTop (mkF m 1 #[.val (.ref a1), .val (.int p2), .val (.int p3), .val (.int p4), .unset, .unset, .unset, .unset] [(.int p3)]))
  refine own_go (fun t_ k => XS.istore X0.here hx rfl (hb hby d1_1) rfl (l' := #[.val (.ref a1), .val (.int p2), .val (.int p3), .val (.int p4), .val (.int p3), .unset, .unset, .unset]) rfl k) ?_
  show WP p e below _ (s₁.setTop (mkF m 3 #[.val (.ref a1), .val (.int p2), .val (.int p3), .val (.int p4), .val (.int p3), .unset, .unset, .unset] []))
  refine own_go (fun t_ k => XS.iloadN X0.here hx rfl (hb hby d1_3) rfl k) ?_
  show WP p e below _ (s₁.setTop (mkF m 4 #[.val (.ref a1), .val (.int p2), .val (.int p3), .val (.int p4), .val (.int p3), .unset, .unset, .unset] [(.int p2)]))
  refine own_go (fun t_ k => XS.iloadN X0.here hx rfl (hb hby d1_4) rfl k) ?_
  show WP p e below _ (s₁.setTop (mkF m 5 #[.val (.ref a1), .val (.int p2), .val (.int p3), .val (.int p4), .val (.int p3), .unset, .unset, .unset] [(.int p4), (.int p2)]))
  refine own_go (fun t_ k => XS.iadd X0.here hx rfl (hb hby d1_5) rfl k) ?_
  show WP p e below _ (s₁.setTop (mkF m 6 #[.val (.ref a1), .val (.int p2), .val (.int p3), .val (.int p4), .val (.int p3), .unset, .unset, .unset] [(.int (p2 + p4))]))
  refine own_go (fun t_ k => XS.istore X0.here hx rfl (hb hby d1_6) rfl (l' := #[.val (.ref a1), .val (.int p2), .val (.int p3), .val (.int p4), .val (.int p3), .val (.int (p2 + p4)), .unset, .unset]) rfl k) ?_
  show WP p e below _ (s₁.setTop (mkF m 8 #[.val (.ref a1), .val (.int p2), .val (.int p3), .val (.int p4), .val (.int p3), .val (.int (p2 + p4)), .unset, .unset] []))
  refine own_go (fun t_ k => XS.iload X0.here hx rfl (hb hby d1_8) rfl k) ?_
  show WP p e below _ (s₁.setTop (mkF m 10 #[.val (.ref a1), .val (.int p2), .val (.int p3), .val (.int p4), .val (.int p3), .val (.int (p2 + p4)), .unset, .unset] [(.int (p2 + p4))]))
  refine own_go (fun t_ k => XS.iconst X0.here hx rfl (hb hby d1_10) k) ?_
  show WP p e below _ (s₁.setTop (mkF m 11 #[.val (.ref a1), .val (.int p2), .val (.int p3), .val (.int p4), .val (.int p3), .val (.int (p2 + p4)), .unset, .unset] [(.int (2 : Int32)), (.int (p2 + p4))]))
  refine own_go (fun t_ k => XS.isub X0.here hx rfl (hb hby d1_11) rfl k) ?_
  show WP p e below _ (s₁.setTop (mkF m 12 #[.val (.ref a1), .val (.int p2), .val (.int p3), .val (.int p4), .val (.int p3), .val (.int (p2 + p4)), .unset, .unset] [(.int ((p2 + p4) - (2 : Int32)))]))
  refine own_go (fun t_ k => XS.istore X0.here hx rfl (hb hby d1_12) rfl (l' := #[.val (.ref a1), .val (.int p2), .val (.int p3), .val (.int p4), .val (.int p3), .val (.int (p2 + p4)), .val (.int ((p2 + p4) - (2 : Int32))), .unset]) rfl k) ?_
  have Lp1 : ∀ (k1 : Nat) (T1 : State) (ls1 : List Loc) (X1 : Stand p l e ({ frames := 0, cells := 0, slots := 0, locals := 0 } : Room) s m #[(.ref a1), (.int p2), (.int p3), (.int p4)] below meth c T1 ls1 0 0) (N1 : Fr n0 ls1) (hh1 : Heap) (Kh1 : Keep h0 hh1 [a1]) (ys1 : List Int32) (hyl1 : ys1.length = 16) (Vh1 : Arv Z hh1 a1 kA .byte (16 : Int32) (ys1.map Value.int) (.int (0 : Int32))) (e1 : T1.heap = hh1) (s1_7 : Slot) (hs1_7 : s1_7 = .unset ∨ ∃ w, s1_7 = .val w ∧ w.category = 1) (rs1 : Int32) (ix1 : Int32) (iva1 : ix1.toInt = (P : Int) + 2 * (k1 : Int) - 2) (ivb1 : 0 ≤ rs1.toInt) (ivc1 : putL P ys1 rs1.toInt.toNat k1 = putL P xs p3.toInt.toNat M) (ivd1 : k1 ≤ 5), WP p e below (GG (Q_rm1 Z a1 p2 p3 p4 kA tt kt to ko xs P M h0 n0) s ({ frames := 0, cells := 0, slots := 0, locals := 0 } : Room).cells ({ frames := 0, cells := 0, slots := 0, locals := 0 } : Room).slots) (T1.setTop (mkF m 14 #[.val (.ref a1), .val (.int p2), .val (.int p3), .val (.int p4), .val (.int rs1), .val (.int (p2 + p4)), .val (.int ix1), s1_7] [])) := by
    intro k1
    induction k1 with
    | zero =>
      intro T1 ls1 X1 N1 hh1 Kh1 ys1 hyl1 Vh1 e1 s1_7 hs1_7 rs1 ix1 iva1 ivb1 ivc1 ivd1
      show WP p e below _ (T1.setTop (mkF m 14 #[.val (.ref a1), .val (.int p2), .val (.int p3), .val (.int p4), .val (.int rs1), .val (.int (p2 + p4)), .val (.int ix1), s1_7] []))
      refine own_go (fun t_ k => XS.iload X1.here hx rfl (hb hby d1_14) rfl k) ?_
      show WP p e below _ (T1.setTop (mkF m 16 #[.val (.ref a1), .val (.int p2), .val (.int p3), .val (.int p4), .val (.int rs1), .val (.int (p2 + p4)), .val (.int ix1), s1_7] [(.int ix1)]))
      refine own_go (fun t_ k => XS.iloadN X1.here hx rfl (hb hby d1_16) rfl k) ?_
      show WP p e below _ (T1.setTop (mkF m 17 #[.val (.ref a1), .val (.int p2), .val (.int p3), .val (.int p4), .val (.int rs1), .val (.int (p2 + p4)), .val (.int ix1), s1_7] [(.int p2), (.int ix1)]))
      have hc17_2 : (ix1 < p2) := by have q := iva1; rw [Int32.lt_iff_toInt_lt]; omega
      refine own_go (fun t_ k => XS.icmpYes X1.here hx rfl (pc0 := 17) (pc' := 62) rfl (hb hby d1_17) rfl (tlt hc17_2).1 (by decide) (by decide) k) ?_
      show WP p e below _ (T1.setTop (mkF m 62 #[.val (.ref a1), .val (.int p2), .val (.int p3), .val (.int p4), .val (.int rs1), .val (.int (p2 + p4)), .val (.int ix1), s1_7] []))
      refine own_go (fun t_ k => XS.iload X1.here hx rfl (hb hby d1_62) rfl k) ?_
      show WP p e below _ (T1.setTop (mkF m 64 #[.val (.ref a1), .val (.int p2), .val (.int p3), .val (.int p4), .val (.int rs1), .val (.int (p2 + p4)), .val (.int ix1), s1_7] [(.int (p2 + p4))]))
      exact own_retI X1 hx Bd.notSynchronized Bd.returns (hb hby d1_64) (by rw [e1]; exact ⟨rfl, N1, Kh1, (by have q := Vh1; rw [show ys1 = putL P xs p3.toInt.toNat M from ivc1] at q; exact q)⟩) (by decide) (by decide)
    | succ k1 ih1 =>
      intro T1 ls1 X1 N1 hh1 Kh1 ys1 hyl1 Vh1 e1 s1_7 hs1_7 rs1 ix1 iva1 ivb1 ivc1 ivd1
      show WP p e below _ (T1.setTop (mkF m 14 #[.val (.ref a1), .val (.int p2), .val (.int p3), .val (.int p4), .val (.int rs1), .val (.int (p2 + p4)), .val (.int ix1), s1_7] []))
      refine own_go (fun t_ k => XS.iload X1.here hx rfl (hb hby d1_14) rfl k) ?_
      show WP p e below _ (T1.setTop (mkF m 16 #[.val (.ref a1), .val (.int p2), .val (.int p3), .val (.int p4), .val (.int rs1), .val (.int (p2 + p4)), .val (.int ix1), s1_7] [(.int ix1)]))
      refine own_go (fun t_ k => XS.iloadN X1.here hx rfl (hb hby d1_16) rfl k) ?_
      show WP p e below _ (T1.setTop (mkF m 17 #[.val (.ref a1), .val (.int p2), .val (.int p3), .val (.int p4), .val (.int rs1), .val (.int (p2 + p4)), .val (.int ix1), s1_7] [(.int p2), (.int ix1)]))
      have hc17_3 : ¬ (ix1 < p2) := by have q := iva1; rw [Int32.lt_iff_toInt_lt]; omega
      refine own_go (fun t_ k => XS.icmpNo X1.here hx rfl (hb hby d1_17) rfl (flt hc17_3).1 k) ?_
      show WP p e below _ (T1.setTop (mkF m 20 #[.val (.ref a1), .val (.int p2), .val (.int p3), .val (.int p4), .val (.int rs1), .val (.int (p2 + p4)), .val (.int ix1), s1_7] []))
      refine own_go (fun t_ k => XS.iload X1.here hx rfl (hb hby d1_20) rfl k) ?_
      show WP p e below _ (T1.setTop (mkF m 22 #[.val (.ref a1), .val (.int p2), .val (.int p3), .val (.int p4), .val (.int rs1), .val (.int (p2 + p4)), .val (.int ix1), s1_7] [(.int rs1)]))
      refine own_go (fun t_ k => XS.bipush X1.here hx rfl (hb hby d1_22) k) ?_
      show WP p e below _ (T1.setTop (mkF m 24 #[.val (.ref a1), .val (.int p2), .val (.int p3), .val (.int p4), .val (.int rs1), .val (.int (p2 + p4)), .val (.int ix1), s1_7] [(.int (100 : Int32)), (.int rs1)]))
      refine own_go (fun t_ k => iremM X1 hx rfl (hb hby d1_24) rfl (by decide) k) ?_
      show WP p e below _ (T1.setTop (mkF m 25 #[.val (.ref a1), .val (.int p2), .val (.int p3), .val (.int p4), .val (.int rs1), .val (.int (p2 + p4)), .val (.int ix1), s1_7] [(.int (rs1 % (100 : Int32)))]))
      refine own_go (fun t_ k => XS.istore X1.here hx rfl (hb hby d1_25) rfl (l' := #[.val (.ref a1), .val (.int p2), .val (.int p3), .val (.int p4), .val (.int rs1), .val (.int (p2 + p4)), .val (.int ix1), .val (.int (rs1 % (100 : Int32)))]) (by first | rfl | exact XS.store1 rfl hs1_7 rfl) k) ?_
      show WP p e below _ (T1.setTop (mkF m 27 #[.val (.ref a1), .val (.int p2), .val (.int p3), .val (.int p4), .val (.int rs1), .val (.int (p2 + p4)), .val (.int ix1), .val (.int (rs1 % (100 : Int32)))] []))
      refine own_go (fun t_ k => XS.aloadN X1.here hx rfl (hb hby d1_27) rfl rfl k) ?_
      show WP p e below _ (T1.setTop (mkF m 28 #[.val (.ref a1), .val (.int p2), .val (.int p3), .val (.int p4), .val (.int rs1), .val (.int (p2 + p4)), .val (.int ix1), .val (.int (rs1 % (100 : Int32)))] [(.ref a1)]))
      refine own_go (fun t_ k => XS.iload X1.here hx rfl (hb hby d1_28) rfl k) ?_
      show WP p e below _ (T1.setTop (mkF m 30 #[.val (.ref a1), .val (.int p2), .val (.int p3), .val (.int p4), .val (.int rs1), .val (.int (p2 + p4)), .val (.int ix1), .val (.int (rs1 % (100 : Int32)))] [(.int ix1), (.ref a1)]))
      obtain ⟨T4, X4, e4, st4⟩ := getS2 X1 hx hZ hown (host := "") (Or.inl (hw _ (List.mem_of_getElem? (i := 12) rfl))) Via.refl e1 (own_sta_keep S_t Kh1 V_a) (g := (mkF m 30 #[.val (.ref a1), .val (.int p2), .val (.int p3), .val (.int p4), .val (.int rs1), .val (.int (p2 + p4)), .val (.int ix1), .val (.int (rs1 % (100 : Int32)))] [(.int ix1), (.ref a1)])) rfl (hb hby d1_30)
      refine own_go st4 ?_
      show WP p e below _ (T4.setTop (mkF m 33 #[.val (.ref a1), .val (.int p2), .val (.int p3), .val (.int p4), .val (.int rs1), .val (.int (p2 + p4)), .val (.int ix1), .val (.int (rs1 % (100 : Int32)))] [(.ref tt), (.int ix1), (.ref a1)]))
      refine own_go (fun t_ k => XS.iload X4.here hx rfl (hb hby d1_33) rfl k) ?_
      show WP p e below _ (T4.setTop (mkF m 35 #[.val (.ref a1), .val (.int p2), .val (.int p3), .val (.int p4), .val (.int rs1), .val (.int (p2 + p4)), .val (.int ix1), .val (.int (rs1 % (100 : Int32)))] [(.int (rs1 % (100 : Int32))), (.ref tt), (.int ix1), (.ref a1)]))
      obtain ⟨cl5, Ar5, -, S5, M5, H5, -⟩ := id ((V_t.keep Kh1 (ninS ne_t nin0)))
      have hin5 : ¬ ((rs1 % (100 : Int32)) < 0 ∨ cl5.slots.size ≤ ((rs1 % (100 : Int32))).toNatClampNeg) := inb_of S5 ((own_pair ivb1).2.1)
      refine own_go (fun t_ k => X4.baloadBytes hx (j := (rs1 % (100 : Int32))) (v := (.int (tT (rs1.toInt.toNat % 100)))) (by rw [e4]; exact Ar5.1) (State.isArrayOf_alike hZ.alike Ar5.2.1) Ar5.2.2 hin5 (H5.at hin5 (own_tl ivb1)) (g := (mkF m 35 #[.val (.ref a1), .val (.int p2), .val (.int p3), .val (.int p4), .val (.int rs1), .val (.int (p2 + p4)), .val (.int ix1), .val (.int (rs1 % (100 : Int32)))] [(.int (rs1 % (100 : Int32))), (.ref tt), (.int ix1), (.ref a1)])) rfl rfl (hb hby d1_35) _ k) ?_
      show WP p e below _ (T4.setTop (mkF m 36 #[.val (.ref a1), .val (.int p2), .val (.int p3), .val (.int p4), .val (.int rs1), .val (.int (p2 + p4)), .val (.int ix1), .val (.int (rs1 % (100 : Int32)))] [(.int (tT (rs1.toInt.toNat % 100))), (.int ix1), (.ref a1)]))
      obtain ⟨cl6, Ar6, q6, S6, M6, H6, G6⟩ := id (Vh1)
      have hin6 : ¬ (ix1 < 0 ∨ cl6.slots.size ≤ (ix1).toNatClampNeg) := inb_of S6 ((own_ix hP3 (by omega) iva1).2.2.1)
      obtain ⟨T7, h7, X7, e7, W7, st7⟩ := stB X4 hx hZ e4 Ar6 (j := ix1) hin6 (g := (mkF m 36 #[.val (.ref a1), .val (.int p2), .val (.int p3), .val (.int p4), .val (.int rs1), .val (.int (p2 + p4)), .val (.int ix1), .val (.int (rs1 % (100 : Int32)))] [(.int (tT (rs1.toInt.toNat % 100))), (.int ix1), (.ref a1)])) rfl rfl (hb hby d1_36)
      refine own_go st7 ?_
      have V7 := Arv.set Ar6 q6 S6 M6 H6 G6 (fits_nar_byte _) W7 (P + 2 * k1) (own_ix hP3 (by omega) iva1).1 (by simp only [List.length_map]; omega)
      have N7 := Fr.snoc X7 N1 g_a
      have K7 : Keep h0 h7 [a1] := Kh1.wr W7 (Or.inl (List.mem_of_getElem? (i := 0) rfl))
      have Vc8 : Arv Z h7 a1 kA .byte (16 : Int32) (List.map Value.int (List.set ys1 (P + 2 * k1) (tT (rs1.toInt.toNat % 100)))) (.int (0 : Int32)) := (by have q := V7; rw [own_nT _ (own_pair ivb1).2.2, ← List.map_set] at q; exact q)
      show WP p e below _ (T7.setTop (mkF m 37 #[.val (.ref a1), .val (.int p2), .val (.int p3), .val (.int p4), .val (.int rs1), .val (.int (p2 + p4)), .val (.int ix1), .val (.int (rs1 % (100 : Int32)))] []))
      refine own_go (fun t_ k => XS.aloadN X7.here hx rfl (hb hby d1_37) rfl rfl k) ?_
      show WP p e below _ (T7.setTop (mkF m 38 #[.val (.ref a1), .val (.int p2), .val (.int p3), .val (.int p4), .val (.int rs1), .val (.int (p2 + p4)), .val (.int ix1), .val (.int (rs1 % (100 : Int32)))] [(.ref a1)]))
      refine own_go (fun t_ k => XS.iload X7.here hx rfl (hb hby d1_38) rfl k) ?_
      show WP p e below _ (T7.setTop (mkF m 40 #[.val (.ref a1), .val (.int p2), .val (.int p3), .val (.int p4), .val (.int rs1), .val (.int (p2 + p4)), .val (.int ix1), .val (.int (rs1 % (100 : Int32)))] [(.int ix1), (.ref a1)]))
      refine own_go (fun t_ k => XS.iconst X7.here hx rfl (hb hby d1_40) k) ?_
      show WP p e below _ (T7.setTop (mkF m 41 #[.val (.ref a1), .val (.int p2), .val (.int p3), .val (.int p4), .val (.int rs1), .val (.int (p2 + p4)), .val (.int ix1), .val (.int (rs1 % (100 : Int32)))] [(.int (1 : Int32)), (.int ix1), (.ref a1)]))
      refine own_go (fun t_ k => XS.iadd X7.here hx rfl (hb hby d1_41) rfl k) ?_
      show WP p e below _ (T7.setTop (mkF m 42 #[.val (.ref a1), .val (.int p2), .val (.int p3), .val (.int p4), .val (.int rs1), .val (.int (p2 + p4)), .val (.int ix1), .val (.int (rs1 % (100 : Int32)))] [(.int (ix1 + (1 : Int32))), (.ref a1)]))
      obtain ⟨T9, X9, e9, st9⟩ := getS2 X7 hx hZ hown (host := "") (Or.inl (hw _ (List.mem_of_getElem? (i := 14) rfl))) Via.refl e7 ((own_sta_keep S_o Kh1 V_a).wr W7) (g := (mkF m 42 #[.val (.ref a1), .val (.int p2), .val (.int p3), .val (.int p4), .val (.int rs1), .val (.int (p2 + p4)), .val (.int ix1), .val (.int (rs1 % (100 : Int32)))] [(.int (ix1 + (1 : Int32))), (.ref a1)])) rfl (hb hby d1_42)
      refine own_go st9 ?_
      show WP p e below _ (T9.setTop (mkF m 45 #[.val (.ref a1), .val (.int p2), .val (.int p3), .val (.int p4), .val (.int rs1), .val (.int (p2 + p4)), .val (.int ix1), .val (.int (rs1 % (100 : Int32)))] [(.ref to), (.int (ix1 + (1 : Int32))), (.ref a1)]))
      refine own_go (fun t_ k => XS.iload X9.here hx rfl (hb hby d1_45) rfl k) ?_
      show WP p e below _ (T9.setTop (mkF m 47 #[.val (.ref a1), .val (.int p2), .val (.int p3), .val (.int p4), .val (.int rs1), .val (.int (p2 + p4)), .val (.int ix1), .val (.int (rs1 % (100 : Int32)))] [(.int (rs1 % (100 : Int32))), (.ref to), (.int (ix1 + (1 : Int32))), (.ref a1)]))
      obtain ⟨cl10, Ar10, -, S10, M10, H10, -⟩ := id (((V_o.keep Kh1 (ninS ne_o nin0)).other W7 ne_o))
      have hin10 : ¬ ((rs1 % (100 : Int32)) < 0 ∨ cl10.slots.size ≤ ((rs1 % (100 : Int32))).toNatClampNeg) := inb_of S10 ((own_pair ivb1).2.1)
      refine own_go (fun t_ k => X9.baloadBytes hx (j := (rs1 % (100 : Int32))) (v := (.int (tO (rs1.toInt.toNat % 100)))) (by rw [e9]; exact Ar10.1) (State.isArrayOf_alike hZ.alike Ar10.2.1) Ar10.2.2 hin10 (H10.at hin10 (own_ol ivb1)) (g := (mkF m 47 #[.val (.ref a1), .val (.int p2), .val (.int p3), .val (.int p4), .val (.int rs1), .val (.int (p2 + p4)), .val (.int ix1), .val (.int (rs1 % (100 : Int32)))] [(.int (rs1 % (100 : Int32))), (.ref to), (.int (ix1 + (1 : Int32))), (.ref a1)])) rfl rfl (hb hby d1_47) _ k) ?_
      show WP p e below _ (T9.setTop (mkF m 48 #[.val (.ref a1), .val (.int p2), .val (.int p3), .val (.int p4), .val (.int rs1), .val (.int (p2 + p4)), .val (.int ix1), .val (.int (rs1 % (100 : Int32)))] [(.int (tO (rs1.toInt.toNat % 100))), (.int (ix1 + (1 : Int32))), (.ref a1)]))
      obtain ⟨cl11, Ar11, q11, S11, M11, H11, G11⟩ := id (Vc8)
      have hin11 : ¬ ((ix1 + (1 : Int32)) < 0 ∨ cl11.slots.size ≤ ((ix1 + (1 : Int32))).toNatClampNeg) := inb_of S11 ((own_ix hP3 (by omega) iva1).2.2.2.1)
      obtain ⟨T12, h12, X12, e12, W12, st12⟩ := stB X9 hx hZ e9 Ar11 (j := (ix1 + (1 : Int32))) hin11 (g := (mkF m 48 #[.val (.ref a1), .val (.int p2), .val (.int p3), .val (.int p4), .val (.int rs1), .val (.int (p2 + p4)), .val (.int ix1), .val (.int (rs1 % (100 : Int32)))] [(.int (tO (rs1.toInt.toNat % 100))), (.int (ix1 + (1 : Int32))), (.ref a1)])) rfl rfl (hb hby d1_48)
      refine own_go st12 ?_
      have V12 := Arv.set Ar11 q11 S11 M11 H11 G11 (fits_nar_byte _) W12 (P + 2 * k1 + 1) (own_ix hP3 (by omega) iva1).2.1 (by simp only [List.length_map, List.length_set]; omega)
      have N12 := Fr.snoc X12 N7 g_a
      have K12 : Keep h0 h12 [a1] := K7.wr W12 (Or.inl (List.mem_of_getElem? (i := 0) rfl))
      have Vc13 : Arv Z h12 a1 kA .byte (16 : Int32) (List.map Value.int (List.set (List.set ys1 (P + 2 * k1) (tT (rs1.toInt.toNat % 100))) (P + 2 * k1 + 1) (tO (rs1.toInt.toNat % 100)))) (.int (0 : Int32)) := (by have q := V12; rw [own_nO _ (own_pair ivb1).2.2, ← List.map_set] at q; exact q)
      show WP p e below _ (T12.setTop (mkF m 49 #[.val (.ref a1), .val (.int p2), .val (.int p3), .val (.int p4), .val (.int rs1), .val (.int (p2 + p4)), .val (.int ix1), .val (.int (rs1 % (100 : Int32)))] []))
      refine own_go (fun t_ k => XS.iload X12.here hx rfl (hb hby d1_49) rfl k) ?_
      show WP p e below _ (T12.setTop (mkF m 51 #[.val (.ref a1), .val (.int p2), .val (.int p3), .val (.int p4), .val (.int rs1), .val (.int (p2 + p4)), .val (.int ix1), .val (.int (rs1 % (100 : Int32)))] [(.int rs1)]))
      refine own_go (fun t_ k => XS.bipush X12.here hx rfl (hb hby d1_51) k) ?_
      show WP p e below _ (T12.setTop (mkF m 53 #[.val (.ref a1), .val (.int p2), .val (.int p3), .val (.int p4), .val (.int rs1), .val (.int (p2 + p4)), .val (.int ix1), .val (.int (rs1 % (100 : Int32)))] [(.int (100 : Int32)), (.int rs1)]))
      refine own_go (fun t_ k => XS.idiv X12.here hx rfl (hb hby d1_53) rfl (by decide) k) ?_
      show WP p e below _ (T12.setTop (mkF m 54 #[.val (.ref a1), .val (.int p2), .val (.int p3), .val (.int p4), .val (.int rs1), .val (.int (p2 + p4)), .val (.int ix1), .val (.int (rs1 % (100 : Int32)))] [(.int (rs1 / (100 : Int32)))]))
      refine own_go (fun t_ k => XS.istore X12.here hx rfl (hb hby d1_54) rfl (l' := #[.val (.ref a1), .val (.int p2), .val (.int p3), .val (.int p4), .val (.int (rs1 / (100 : Int32))), .val (.int (p2 + p4)), .val (.int ix1), .val (.int (rs1 % (100 : Int32)))]) rfl k) ?_
      show WP p e below _ (T12.setTop (mkF m 56 #[.val (.ref a1), .val (.int p2), .val (.int p3), .val (.int p4), .val (.int (rs1 / (100 : Int32))), .val (.int (p2 + p4)), .val (.int ix1), .val (.int (rs1 % (100 : Int32)))] []))
      refine own_go (fun t_ k => XS.iinc X12.here hx rfl (hb hby d1_56) rfl (l' := #[.val (.ref a1), .val (.int p2), .val (.int p3), .val (.int p4), .val (.int (rs1 / (100 : Int32))), .val (.int (p2 + p4)), .val (.int (ix1 + (-2 : Int32))), .val (.int (rs1 % (100 : Int32)))]) rfl k) ?_
      show WP p e below _ (T12.setTop (mkF m 59 #[.val (.ref a1), .val (.int p2), .val (.int p3), .val (.int p4), .val (.int (rs1 / (100 : Int32))), .val (.int (p2 + p4)), .val (.int (ix1 + (-2 : Int32))), .val (.int (rs1 % (100 : Int32)))] []))
      refine own_go (fun t_ k => XS.goto X12.here hx rfl (pc0 := 59) (pc' := 14) rfl (hb hby d1_59) (by decide) (by decide) k) ?_
      show WP p e below _ (T12.setTop (mkF m 14 #[.val (.ref a1), .val (.int p2), .val (.int p3), .val (.int p4), .val (.int (rs1 / (100 : Int32))), .val (.int (p2 + p4)), .val (.int (ix1 + (-2 : Int32))), .val (.int (rs1 % (100 : Int32)))] []))
      exact ih1 T12 _ X12 N12 h12 K12 (List.set (List.set ys1 (P + 2 * k1) (tT (rs1.toInt.toNat % 100))) (P + 2 * k1 + 1) (tO (rs1.toInt.toNat % 100))) (by first | exact hxl | (simp only [List.length_set]; assumption)) Vc13 e12 _ (Or.inr ⟨_, rfl, rfl⟩) (rs1 / (100 : Int32)) (ix1 + (-2 : Int32)) ((own_ix hP3 (by omega) iva1).2.2.2.2) ((own_div ivb1).2) (by rw [(own_div ivb1).1]; exact ivc1) (by omega)
  show WP p e below _ (s₁.setTop (mkF m 14 #[.val (.ref a1), .val (.int p2), .val (.int p3), .val (.int p4), .val (.int p3), .val (.int (p2 + p4)), .val (.int ((p2 + p4) - (2 : Int32))), .unset] []))
  exact Lp1 M s₁ _ X0 N0 h0 (Keep.refl h0 [a1]) xs (by first | exact hxl | (simp only [List.length_set]; assumption)) V_a e0 _ (Or.inl rfl) p3 ((p2 + p4) - (2 : Int32)) ((own_i0 hP hP3 hM hM5).1) (hN) (rfl) (hM5)
theorem d2_0 : decode method_3_code 0 = .ok (.iload_n 1, 1) := by decide +kernel
theorem d2_1 : decode method_3_code 1 = .ok (.iload_n 2, 1) := by decide +kernel
theorem d2_2 : decode method_3_code 2 = .ok (.if_icmp .lt 11, 3) := by decide +kernel
theorem d2_5 : decode method_3_code 5 = .ok (.iload_n 1, 1) := by decide +kernel
theorem d2_6 : decode method_3_code 6 = .ok (.iload_n 2, 1) := by decide +kernel
theorem d2_7 : decode method_3_code 7 = .ok (.iload 4, 2) := by decide +kernel
theorem d2_9 : decode method_3_code 9 = .ok (.iadd, 1) := by decide +kernel
theorem d2_10 : decode method_3_code 10 = .ok (.if_icmp .lt 17, 3) := by decide +kernel
theorem d2_13 : decode method_3_code 13 = .ok (.aload_n 0, 1) := by decide +kernel
theorem d2_14 : decode method_3_code 14 = .ok (.iload_n 1, 1) := by decide +kernel
theorem d2_15 : decode method_3_code 15 = .ok (.baload, 1) := by decide +kernel
theorem d2_16 : decode method_3_code 16 = .ok (.iload 5, 2) := by decide +kernel
theorem d2_18 : decode method_3_code 18 = .ok (.if_icmp .ne 7, 3) := by decide +kernel
theorem d2_21 : decode method_3_code 21 = .ok (.iconst 1, 1) := by decide +kernel
theorem d2_22 : decode method_3_code 22 = .ok (.goto 4, 3) := by decide +kernel
theorem d2_26 : decode method_3_code 26 = .ok (.ireturn, 1) := by decide +kernel
theorem d2_27 : decode method_3_code 27 = .ok (.iload_n 2, 1) := by decide +kernel
theorem d2_28 : decode method_3_code 28 = .ok (.iload 4, 2) := by decide +kernel
theorem d2_30 : decode method_3_code 30 = .ok (.iadd, 1) := by decide +kernel
theorem d2_31 : decode method_3_code 31 = .ok (.iconst 1, 1) := by decide +kernel
theorem d2_32 : decode method_3_code 32 = .ok (.isub, 1) := by decide +kernel
theorem d2_33 : decode method_3_code 33 = .ok (.iload_n 1, 1) := by decide +kernel
theorem d2_34 : decode method_3_code 34 = .ok (.isub, 1) := by decide +kernel
theorem d2_35 : decode method_3_code 35 = .ok (.istore 7, 2) := by decide +kernel
theorem d2_37 : decode method_3_code 37 = .ok (.iload_n 3, 1) := by decide +kernel
theorem d2_38 : decode method_3_code 38 = .ok (.aload 6, 2) := by decide +kernel
theorem d2_40 : decode method_3_code 40 = .ok (.iload 7, 2) := by decide +kernel
theorem d2_42 : decode method_3_code 42 = .ok (.iaload, 1) := by decide +kernel
theorem d2_43 : decode method_3_code 43 = .ok (.idiv, 1) := by decide +kernel
theorem d2_44 : decode method_3_code 44 = .ok (.bipush 10, 2) := by decide +kernel
theorem d2_46 : decode method_3_code 46 = .ok (.irem, 1) := by decide +kernel
theorem d2_47 : decode method_3_code 47 = .ok (.istore 8, 2) := by decide +kernel
theorem d2_49 : decode method_3_code 49 = .ok (.aload_n 0, 1) := by decide +kernel
theorem d2_50 : decode method_3_code 50 = .ok (.iload_n 1, 1) := by decide +kernel
theorem d2_51 : decode method_3_code 51 = .ok (.baload, 1) := by decide +kernel
theorem d2_52 : decode method_3_code 52 = .ok (.bipush 48, 2) := by decide +kernel
theorem d2_54 : decode method_3_code 54 = .ok (.iload 8, 2) := by decide +kernel
theorem d2_56 : decode method_3_code 56 = .ok (.iadd, 1) := by decide +kernel
theorem d2_57 : decode method_3_code 57 = .ok (.i2b, 1) := by decide +kernel
theorem d2_58 : decode method_3_code 58 = .ok (.if_icmp .ne 7, 3) := by decide +kernel
theorem d2_61 : decode method_3_code 61 = .ok (.iconst 1, 1) := by decide +kernel
theorem d2_62 : decode method_3_code 62 = .ok (.goto 4, 3) := by decide +kernel
theorem d2_66 : decode method_3_code 66 = .ok (.ireturn, 1) := by decide +kernel
theorem pn_1 : plainName "com/example/bittern/bittern/DigitsPutPinLaw" = true := by first | (simp [plainName, overriddenIn]; done) | decide +kernel
theorem ef_rm2 (m : MethodId) (x0 : Addr) (x1 : Int32) (x2 : Int32) (x3 : Int32) (x4 : Int32) (x5 : Int32) (x6 : Addr) : entryFrame m #[(.ref x0), (.int x1), (.int x2), (.int x3), (.int x4), (.int x5), (.ref x6)] 9 = mkF m 0 #[.val (.ref x0), .val (.int x1), .val (.int x2), .val (.int x3), .val (.int x4), .val (.int x5), .val (.ref x6), .unset, .unset] [] := by first | (simp [entryFrame, mkF, argsToLocals, Value.category]; done) | rfl
set_option maxRecDepth 65536 in
set_option maxHeartbeats 40000000 in
theorem rm2 (l : Launch) (Z : State) (a0 : Array Value) (hw : ∀ d ∈ tables_1, d.before a0 Z = true) (ws : List Jvm.Cond) (a1 : Addr) (p2 : Int32) (p3 : Int32) (p4 : Int32) (p5 : Int32) (p6 : Int32) (a7 : Addr) (kA : ClassId) (kP : ClassId) (xs : List Int32) (h0 : Heap) (n0 : Nat) (V_o : Arv Z h0 a1 kA .byte (16 : Int32) (xs.map Value.int) (.int (0 : Int32))) (V_p : Arv Z h0 a7 kP .int (10 : Int32) [(.int (1 : Int32)), (.int (10 : Int32)), (.int (100 : Int32)), (.int (1000 : Int32)), (.int (10000 : Int32)), (.int (100000 : Int32)), (.int (1000000 : Int32)), (.int (10000000 : Int32)), (.int (100000000 : Int32)), (.int (1000000000 : Int32))] (.int (0 : Int32))) (hi : ¬ p2 < 0 ∧ p2 < (16 : Int32)) (hA : (p2 < p3 ∨ ¬ p2 < (p3 + p5)) → xs.getD p2.toNatClampNeg 0 = p6) (hC : ¬ p2 < p3 → p2 < (p3 + p5) → (¬ (((p3 + p5) - (1 : Int32)) - p2) < 0 ∧ (((p3 + p5) - (1 : Int32)) - p2) < (10 : Int32)) ∧ (powL.getD (((p3 + p5) - (1 : Int32)) - p2).toNatClampNeg 0) ≠ 0 ∧ xs.getD p2.toNatClampNeg 0 = (((48 : Int32) + ((p4 / (powL.getD (((p3 + p5) - (1 : Int32)) - p2).toNatClampNeg 0)) % (10 : Int32))).toInt8.toInt32)) :
    MetFree l (⟨"com/example/bittern/bittern/DigitsPutPinLaw", "at", "([BIIIIB[I)Z"⟩ : MethodName) (head1 (Jvm.Cond.code (⟨"com/example/bittern/bittern/DigitsPutPinLaw", "at", "([BIIIIB[I)Z"⟩ : MethodName) method_3_code 9 (some .boolean) :: ws) ({ frames := 0, cells := 0, slots := 0, locals := 0 } : Room)) (fun a U => a = #[(.ref a1), (.int p2), (.int p3), (.int p4), (.int p5), (.int p6), (.ref a7)] ∧ Z.Warmed39 U.vm ∧ U.heap = h0) (fun _ _ _ _ _ => True) (fun _ U o U' => ∃ v L, o = .returned v ∧ (PQ h0 n0 (.int (1 : Int32))) v U'.heap L ∧ FrameEnd U o U' L ({ frames := 0, cells := 0, slots := 0, locals := 0 } : Room).cells ({ frames := 0, cells := 0, slots := 0, locals := 0 } : Room).slots) := by
  refine MetFree.of_bodySF (plainFor_of_name pn_1) hisR ?_
  intro p e s m args below meth c s₁ Bd hml0 hP hK
  obtain ⟨rfl, hZ, hh⟩ := hP
  have hx := Bd.exec
  have hby := Bd.bytes
  have hml : c.maxLocals = 9 := hml0
  have hown : s.vm.findClass "com/example/bittern/bittern/DigitsPutPinLaw" = some m.cls := findClass_of_methodNamed Bd.named
  have hnm := (name_of_methodNamed Bd.named Bd.method).1
  have X0 : Stand p l e ({ frames := 0, cells := 0, slots := 0, locals := 0 } : Room) s m #[(.ref a1), (.int p2), (.int p3), (.int p4), (.int p5), (.int p6), (.ref a7)] below meth c s₁ [] 0 0 := Stand.of_body Bd
  have e0 : s₁.heap = h0 := by rw [← hh, Bd.state]; rfl
  have N0 := Fr.nil n0
  show WP p e below (GG (PQ h0 n0 (.int (1 : Int32))) s ({ frames := 0, cells := 0, slots := 0, locals := 0 } : Room).cells ({ frames := 0, cells := 0, slots := 0, locals := 0 } : Room).slots) (s₁.setTop (entryFrame m #[(.ref a1), (.int p2), (.int p3), (.int p4), (.int p5), (.int p6), (.ref a7)] 9))
  rw [ef_rm2 m a1 p2 p3 p4 p5 p6 a7]
  show WP p e below _ (s₁.setTop (mkF m 0 #[.val (.ref a1), .val (.int p2), .val (.int p3), .val (.int p4), .val (.int p5), .val (.int p6), .val (.ref a7), .unset, .unset] []))
  refine own_go (fun t_ k => XS.iloadN X0.here hx rfl (hb hby d2_0) rfl k) ?_
  show WP p e below _ (s₁.setTop (mkF m 1 #[.val (.ref a1), .val (.int p2), .val (.int p3), .val (.int p4), .val (.int p5), .val (.int p6), .val (.ref a7), .unset, .unset] [(.int p2)]))
  refine own_go (fun t_ k => XS.iloadN X0.here hx rfl (hb hby d2_1) rfl k) ?_
  show WP p e below _ (s₁.setTop (mkF m 2 #[.val (.ref a1), .val (.int p2), .val (.int p3), .val (.int p4), .val (.int p5), .val (.int p6), .val (.ref a7), .unset, .unset] [(.int p3), (.int p2)]))
  by_cases hc2_1 : p2 < p3
  · refine own_go (fun t_ k => XS.icmpYes X0.here hx rfl (pc0 := 2) (pc' := 13) rfl (hb hby d2_2) rfl (tlt hc2_1).1 (by decide) (by decide) k) ?_
    show WP p e below _ (s₁.setTop (mkF m 13 #[.val (.ref a1), .val (.int p2), .val (.int p3), .val (.int p4), .val (.int p5), .val (.int p6), .val (.ref a7), .unset, .unset] []))
    refine own_go (fun t_ k => XS.aloadN X0.here hx rfl (hb hby d2_13) rfl rfl k) ?_
    show WP p e below _ (s₁.setTop (mkF m 14 #[.val (.ref a1), .val (.int p2), .val (.int p3), .val (.int p4), .val (.int p5), .val (.int p6), .val (.ref a7), .unset, .unset] [(.ref a1)]))
    refine own_go (fun t_ k => XS.iloadN X0.here hx rfl (hb hby d2_14) rfl k) ?_
    show WP p e below _ (s₁.setTop (mkF m 15 #[.val (.ref a1), .val (.int p2), .val (.int p3), .val (.int p4), .val (.int p5), .val (.int p6), .val (.ref a7), .unset, .unset] [(.int p2), (.ref a1)]))
    obtain ⟨cl2, Ar2, -, S2, M2, H2, -⟩ := id (V_o)
    have hin2 : ¬ (p2 < 0 ∨ cl2.slots.size ≤ (p2).toNatClampNeg) := inb_of S2 (hi)
    refine own_go (fun t_ k => X0.baloadBytes hx (j := p2) (v := (.int (xs.getD p2.toNatClampNeg 0))) (by rw [e0]; exact Ar2.1) (State.isArrayOf_alike hZ.alike Ar2.2.1) Ar2.2.2 hin2 (H2.at hin2 (own_at xs _)) (g := (mkF m 15 #[.val (.ref a1), .val (.int p2), .val (.int p3), .val (.int p4), .val (.int p5), .val (.int p6), .val (.ref a7), .unset, .unset] [(.int p2), (.ref a1)])) rfl rfl (hb hby d2_15) _ k) ?_
    show WP p e below _ (s₁.setTop (mkF m 16 #[.val (.ref a1), .val (.int p2), .val (.int p3), .val (.int p4), .val (.int p5), .val (.int p6), .val (.ref a7), .unset, .unset] [(.int (xs.getD p2.toNatClampNeg 0))]))
    refine own_go (fun t_ k => XS.iload X0.here hx rfl (hb hby d2_16) rfl k) ?_
    show WP p e below _ (s₁.setTop (mkF m 18 #[.val (.ref a1), .val (.int p2), .val (.int p3), .val (.int p4), .val (.int p5), .val (.int p6), .val (.ref a7), .unset, .unset] [(.int p6), (.int (xs.getD p2.toNatClampNeg 0))]))
    have hc18_3 : ((xs.getD p2.toNatClampNeg 0) = p6) := hA (Or.inl hc2_1)
    refine own_go (fun t_ k => XS.icmpNo X0.here hx rfl (hb hby d2_18) rfl (teq hc18_3).2 k) ?_
    show WP p e below _ (s₁.setTop (mkF m 21 #[.val (.ref a1), .val (.int p2), .val (.int p3), .val (.int p4), .val (.int p5), .val (.int p6), .val (.ref a7), .unset, .unset] []))
    refine own_go (fun t_ k => XS.iconst X0.here hx rfl (hb hby d2_21) k) ?_
    show WP p e below _ (s₁.setTop (mkF m 22 #[.val (.ref a1), .val (.int p2), .val (.int p3), .val (.int p4), .val (.int p5), .val (.int p6), .val (.ref a7), .unset, .unset] [(.int (1 : Int32))]))
    refine own_go (fun t_ k => XS.goto X0.here hx rfl (pc0 := 22) (pc' := 26) rfl (hb hby d2_22) (by decide) (by decide) k) ?_
    show WP p e below _ (s₁.setTop (mkF m 26 #[.val (.ref a1), .val (.int p2), .val (.int p3), .val (.int p4), .val (.int p5), .val (.int p6), .val (.ref a7), .unset, .unset] [(.int (1 : Int32))]))
    exact own_retZ X0 hx Bd.notSynchronized Bd.returns (hb hby d2_26) (by decide) (show PQ h0 n0 (.int (1 : Int32)) _ _ _ from ⟨rfl, N0, e0⟩) (by decide) (by decide)
  · refine own_go (fun t_ k => XS.icmpNo X0.here hx rfl (hb hby d2_2) rfl (flt hc2_1).1 k) ?_
    show WP p e below _ (s₁.setTop (mkF m 5 #[.val (.ref a1), .val (.int p2), .val (.int p3), .val (.int p4), .val (.int p5), .val (.int p6), .val (.ref a7), .unset, .unset] []))
    refine own_go (fun t_ k => XS.iloadN X0.here hx rfl (hb hby d2_5) rfl k) ?_
    show WP p e below _ (s₁.setTop (mkF m 6 #[.val (.ref a1), .val (.int p2), .val (.int p3), .val (.int p4), .val (.int p5), .val (.int p6), .val (.ref a7), .unset, .unset] [(.int p2)]))
    refine own_go (fun t_ k => XS.iloadN X0.here hx rfl (hb hby d2_6) rfl k) ?_
    show WP p e below _ (s₁.setTop (mkF m 7 #[.val (.ref a1), .val (.int p2), .val (.int p3), .val (.int p4), .val (.int p5), .val (.int p6), .val (.ref a7), .unset, .unset] [(.int p3), (.int p2)]))
    refine own_go (fun t_ k => XS.iload X0.here hx rfl (hb hby d2_7) rfl k) ?_
    show WP p e below _ (s₁.setTop (mkF m 9 #[.val (.ref a1), .val (.int p2), .val (.int p3), .val (.int p4), .val (.int p5), .val (.int p6), .val (.ref a7), .unset, .unset] [(.int p5), (.int p3), (.int p2)]))
    refine own_go (fun t_ k => XS.iadd X0.here hx rfl (hb hby d2_9) rfl k) ?_
    show WP p e below _ (s₁.setTop (mkF m 10 #[.val (.ref a1), .val (.int p2), .val (.int p3), .val (.int p4), .val (.int p5), .val (.int p6), .val (.ref a7), .unset, .unset] [(.int (p3 + p5)), (.int p2)]))
    by_cases hc10_4 : p2 < (p3 + p5)
    · refine own_go (fun t_ k => XS.icmpYes X0.here hx rfl (pc0 := 10) (pc' := 27) rfl (hb hby d2_10) rfl (tlt hc10_4).1 (by decide) (by decide) k) ?_
      show WP p e below _ (s₁.setTop (mkF m 27 #[.val (.ref a1), .val (.int p2), .val (.int p3), .val (.int p4), .val (.int p5), .val (.int p6), .val (.ref a7), .unset, .unset] []))
      refine own_go (fun t_ k => XS.iloadN X0.here hx rfl (hb hby d2_27) rfl k) ?_
      show WP p e below _ (s₁.setTop (mkF m 28 #[.val (.ref a1), .val (.int p2), .val (.int p3), .val (.int p4), .val (.int p5), .val (.int p6), .val (.ref a7), .unset, .unset] [(.int p3)]))
      refine own_go (fun t_ k => XS.iload X0.here hx rfl (hb hby d2_28) rfl k) ?_
      show WP p e below _ (s₁.setTop (mkF m 30 #[.val (.ref a1), .val (.int p2), .val (.int p3), .val (.int p4), .val (.int p5), .val (.int p6), .val (.ref a7), .unset, .unset] [(.int p5), (.int p3)]))
      refine own_go (fun t_ k => XS.iadd X0.here hx rfl (hb hby d2_30) rfl k) ?_
      show WP p e below _ (s₁.setTop (mkF m 31 #[.val (.ref a1), .val (.int p2), .val (.int p3), .val (.int p4), .val (.int p5), .val (.int p6), .val (.ref a7), .unset, .unset] [(.int (p3 + p5))]))
      refine own_go (fun t_ k => XS.iconst X0.here hx rfl (hb hby d2_31) k) ?_
      show WP p e below _ (s₁.setTop (mkF m 32 #[.val (.ref a1), .val (.int p2), .val (.int p3), .val (.int p4), .val (.int p5), .val (.int p6), .val (.ref a7), .unset, .unset] [(.int (1 : Int32)), (.int (p3 + p5))]))
      refine own_go (fun t_ k => XS.isub X0.here hx rfl (hb hby d2_32) rfl k) ?_
      show WP p e below _ (s₁.setTop (mkF m 33 #[.val (.ref a1), .val (.int p2), .val (.int p3), .val (.int p4), .val (.int p5), .val (.int p6), .val (.ref a7), .unset, .unset] [(.int ((p3 + p5) - (1 : Int32)))]))
      refine own_go (fun t_ k => XS.iloadN X0.here hx rfl (hb hby d2_33) rfl k) ?_
      show WP p e below _ (s₁.setTop (mkF m 34 #[.val (.ref a1), .val (.int p2), .val (.int p3), .val (.int p4), .val (.int p5), .val (.int p6), .val (.ref a7), .unset, .unset] [(.int p2), (.int ((p3 + p5) - (1 : Int32)))]))
      refine own_go (fun t_ k => XS.isub X0.here hx rfl (hb hby d2_34) rfl k) ?_
      show WP p e below _ (s₁.setTop (mkF m 35 #[.val (.ref a1), .val (.int p2), .val (.int p3), .val (.int p4), .val (.int p5), .val (.int p6), .val (.ref a7), .unset, .unset] [(.int (((p3 + p5) - (1 : Int32)) - p2))]))
      refine own_go (fun t_ k => XS.istore X0.here hx rfl (hb hby d2_35) rfl (l' := #[.val (.ref a1), .val (.int p2), .val (.int p3), .val (.int p4), .val (.int p5), .val (.int p6), .val (.ref a7), .val (.int (((p3 + p5) - (1 : Int32)) - p2)), .unset]) rfl k) ?_
      show WP p e below _ (s₁.setTop (mkF m 37 #[.val (.ref a1), .val (.int p2), .val (.int p3), .val (.int p4), .val (.int p5), .val (.int p6), .val (.ref a7), .val (.int (((p3 + p5) - (1 : Int32)) - p2)), .unset] []))
      refine own_go (fun t_ k => XS.iloadN X0.here hx rfl (hb hby d2_37) rfl k) ?_
      show WP p e below _ (s₁.setTop (mkF m 38 #[.val (.ref a1), .val (.int p2), .val (.int p3), .val (.int p4), .val (.int p5), .val (.int p6), .val (.ref a7), .val (.int (((p3 + p5) - (1 : Int32)) - p2)), .unset] [(.int p4)]))
      refine own_go (fun t_ k => XS.aload X0.here hx rfl (hb hby d2_38) rfl rfl k) ?_
      show WP p e below _ (s₁.setTop (mkF m 40 #[.val (.ref a1), .val (.int p2), .val (.int p3), .val (.int p4), .val (.int p5), .val (.int p6), .val (.ref a7), .val (.int (((p3 + p5) - (1 : Int32)) - p2)), .unset] [(.ref a7), (.int p4)]))
      refine own_go (fun t_ k => XS.iload X0.here hx rfl (hb hby d2_40) rfl k) ?_
      show WP p e below _ (s₁.setTop (mkF m 42 #[.val (.ref a1), .val (.int p2), .val (.int p3), .val (.int p4), .val (.int p5), .val (.int p6), .val (.ref a7), .val (.int (((p3 + p5) - (1 : Int32)) - p2)), .unset] [(.int (((p3 + p5) - (1 : Int32)) - p2)), (.ref a7), (.int p4)]))
      obtain ⟨cl5, Ar5, -, S5, M5, H5, -⟩ := id (V_p)
      have hin5 : ¬ ((((p3 + p5) - (1 : Int32)) - p2) < 0 ∨ cl5.slots.size ≤ ((((p3 + p5) - (1 : Int32)) - p2)).toNatClampNeg) := inb_of S5 ((hC hc2_1 hc10_4).1)
      refine own_go (fun t_ k => X0.iaload hx (j := (((p3 + p5) - (1 : Int32)) - p2)) (v := (.int (powL.getD (((p3 + p5) - (1 : Int32)) - p2).toNatClampNeg 0))) (by rw [e0]; exact Ar5.1) (State.isArrayOf_alike hZ.alike Ar5.2.1) Ar5.2.2 hin5 (H5.at hin5 (own_at powL _)) (g := (mkF m 42 #[.val (.ref a1), .val (.int p2), .val (.int p3), .val (.int p4), .val (.int p5), .val (.int p6), .val (.ref a7), .val (.int (((p3 + p5) - (1 : Int32)) - p2)), .unset] [(.int (((p3 + p5) - (1 : Int32)) - p2)), (.ref a7), (.int p4)])) rfl rfl (hb hby d2_42) _ k) ?_
      show WP p e below _ (s₁.setTop (mkF m 43 #[.val (.ref a1), .val (.int p2), .val (.int p3), .val (.int p4), .val (.int p5), .val (.int p6), .val (.ref a7), .val (.int (((p3 + p5) - (1 : Int32)) - p2)), .unset] [(.int (powL.getD (((p3 + p5) - (1 : Int32)) - p2).toNatClampNeg 0)), (.int p4)]))
      refine own_go (fun t_ k => XS.idiv X0.here hx rfl (hb hby d2_43) rfl (hC hc2_1 hc10_4).2.1 k) ?_
      show WP p e below _ (s₁.setTop (mkF m 44 #[.val (.ref a1), .val (.int p2), .val (.int p3), .val (.int p4), .val (.int p5), .val (.int p6), .val (.ref a7), .val (.int (((p3 + p5) - (1 : Int32)) - p2)), .unset] [(.int (p4 / (powL.getD (((p3 + p5) - (1 : Int32)) - p2).toNatClampNeg 0)))]))
      refine own_go (fun t_ k => XS.bipush X0.here hx rfl (hb hby d2_44) k) ?_
      show WP p e below _ (s₁.setTop (mkF m 46 #[.val (.ref a1), .val (.int p2), .val (.int p3), .val (.int p4), .val (.int p5), .val (.int p6), .val (.ref a7), .val (.int (((p3 + p5) - (1 : Int32)) - p2)), .unset] [(.int (10 : Int32)), (.int (p4 / (powL.getD (((p3 + p5) - (1 : Int32)) - p2).toNatClampNeg 0)))]))
      refine own_go (fun t_ k => iremM X0 hx rfl (hb hby d2_46) rfl (by decide) k) ?_
      show WP p e below _ (s₁.setTop (mkF m 47 #[.val (.ref a1), .val (.int p2), .val (.int p3), .val (.int p4), .val (.int p5), .val (.int p6), .val (.ref a7), .val (.int (((p3 + p5) - (1 : Int32)) - p2)), .unset] [(.int ((p4 / (powL.getD (((p3 + p5) - (1 : Int32)) - p2).toNatClampNeg 0)) % (10 : Int32)))]))
      refine own_go (fun t_ k => XS.istore X0.here hx rfl (hb hby d2_47) rfl (l' := #[.val (.ref a1), .val (.int p2), .val (.int p3), .val (.int p4), .val (.int p5), .val (.int p6), .val (.ref a7), .val (.int (((p3 + p5) - (1 : Int32)) - p2)), .val (.int ((p4 / (powL.getD (((p3 + p5) - (1 : Int32)) - p2).toNatClampNeg 0)) % (10 : Int32)))]) rfl k) ?_
      show WP p e below _ (s₁.setTop (mkF m 49 #[.val (.ref a1), .val (.int p2), .val (.int p3), .val (.int p4), .val (.int p5), .val (.int p6), .val (.ref a7), .val (.int (((p3 + p5) - (1 : Int32)) - p2)), .val (.int ((p4 / (powL.getD (((p3 + p5) - (1 : Int32)) - p2).toNatClampNeg 0)) % (10 : Int32)))] []))
      refine own_go (fun t_ k => XS.aloadN X0.here hx rfl (hb hby d2_49) rfl rfl k) ?_
      show WP p e below _ (s₁.setTop (mkF m 50 #[.val (.ref a1), .val (.int p2), .val (.int p3), .val (.int p4), .val (.int p5), .val (.int p6), .val (.ref a7), .val (.int (((p3 + p5) - (1 : Int32)) - p2)), .val (.int ((p4 / (powL.getD (((p3 + p5) - (1 : Int32)) - p2).toNatClampNeg 0)) % (10 : Int32)))] [(.ref a1)]))
      refine own_go (fun t_ k => XS.iloadN X0.here hx rfl (hb hby d2_50) rfl k) ?_
      show WP p e below _ (s₁.setTop (mkF m 51 #[.val (.ref a1), .val (.int p2), .val (.int p3), .val (.int p4), .val (.int p5), .val (.int p6), .val (.ref a7), .val (.int (((p3 + p5) - (1 : Int32)) - p2)), .val (.int ((p4 / (powL.getD (((p3 + p5) - (1 : Int32)) - p2).toNatClampNeg 0)) % (10 : Int32)))] [(.int p2), (.ref a1)]))
      obtain ⟨cl6, Ar6, -, S6, M6, H6, -⟩ := id (V_o)
      have hin6 : ¬ (p2 < 0 ∨ cl6.slots.size ≤ (p2).toNatClampNeg) := inb_of S6 (hi)
      refine own_go (fun t_ k => X0.baloadBytes hx (j := p2) (v := (.int (xs.getD p2.toNatClampNeg 0))) (by rw [e0]; exact Ar6.1) (State.isArrayOf_alike hZ.alike Ar6.2.1) Ar6.2.2 hin6 (H6.at hin6 (own_at xs _)) (g := (mkF m 51 #[.val (.ref a1), .val (.int p2), .val (.int p3), .val (.int p4), .val (.int p5), .val (.int p6), .val (.ref a7), .val (.int (((p3 + p5) - (1 : Int32)) - p2)), .val (.int ((p4 / (powL.getD (((p3 + p5) - (1 : Int32)) - p2).toNatClampNeg 0)) % (10 : Int32)))] [(.int p2), (.ref a1)])) rfl rfl (hb hby d2_51) _ k) ?_
      show WP p e below _ (s₁.setTop (mkF m 52 #[.val (.ref a1), .val (.int p2), .val (.int p3), .val (.int p4), .val (.int p5), .val (.int p6), .val (.ref a7), .val (.int (((p3 + p5) - (1 : Int32)) - p2)), .val (.int ((p4 / (powL.getD (((p3 + p5) - (1 : Int32)) - p2).toNatClampNeg 0)) % (10 : Int32)))] [(.int (xs.getD p2.toNatClampNeg 0))]))
      refine own_go (fun t_ k => XS.bipush X0.here hx rfl (hb hby d2_52) k) ?_
      show WP p e below _ (s₁.setTop (mkF m 54 #[.val (.ref a1), .val (.int p2), .val (.int p3), .val (.int p4), .val (.int p5), .val (.int p6), .val (.ref a7), .val (.int (((p3 + p5) - (1 : Int32)) - p2)), .val (.int ((p4 / (powL.getD (((p3 + p5) - (1 : Int32)) - p2).toNatClampNeg 0)) % (10 : Int32)))] [(.int (48 : Int32)), (.int (xs.getD p2.toNatClampNeg 0))]))
      refine own_go (fun t_ k => XS.iload X0.here hx rfl (hb hby d2_54) rfl k) ?_
      show WP p e below _ (s₁.setTop (mkF m 56 #[.val (.ref a1), .val (.int p2), .val (.int p3), .val (.int p4), .val (.int p5), .val (.int p6), .val (.ref a7), .val (.int (((p3 + p5) - (1 : Int32)) - p2)), .val (.int ((p4 / (powL.getD (((p3 + p5) - (1 : Int32)) - p2).toNatClampNeg 0)) % (10 : Int32)))] [(.int ((p4 / (powL.getD (((p3 + p5) - (1 : Int32)) - p2).toNatClampNeg 0)) % (10 : Int32))), (.int (48 : Int32)), (.int (xs.getD p2.toNatClampNeg 0))]))
      refine own_go (fun t_ k => XS.iadd X0.here hx rfl (hb hby d2_56) rfl k) ?_
      show WP p e below _ (s₁.setTop (mkF m 57 #[.val (.ref a1), .val (.int p2), .val (.int p3), .val (.int p4), .val (.int p5), .val (.int p6), .val (.ref a7), .val (.int (((p3 + p5) - (1 : Int32)) - p2)), .val (.int ((p4 / (powL.getD (((p3 + p5) - (1 : Int32)) - p2).toNatClampNeg 0)) % (10 : Int32)))] [(.int ((48 : Int32) + ((p4 / (powL.getD (((p3 + p5) - (1 : Int32)) - p2).toNatClampNeg 0)) % (10 : Int32)))), (.int (xs.getD p2.toNatClampNeg 0))]))
      refine own_go (fun t_ k => XS.i2b X0.here hx rfl (hb hby d2_57) rfl k) ?_
      show WP p e below _ (s₁.setTop (mkF m 58 #[.val (.ref a1), .val (.int p2), .val (.int p3), .val (.int p4), .val (.int p5), .val (.int p6), .val (.ref a7), .val (.int (((p3 + p5) - (1 : Int32)) - p2)), .val (.int ((p4 / (powL.getD (((p3 + p5) - (1 : Int32)) - p2).toNatClampNeg 0)) % (10 : Int32)))] [(.int (((48 : Int32) + ((p4 / (powL.getD (((p3 + p5) - (1 : Int32)) - p2).toNatClampNeg 0)) % (10 : Int32))).toInt8.toInt32)), (.int (xs.getD p2.toNatClampNeg 0))]))
      have hc58_7 : ((xs.getD p2.toNatClampNeg 0) = (((48 : Int32) + ((p4 / (powL.getD (((p3 + p5) - (1 : Int32)) - p2).toNatClampNeg 0)) % (10 : Int32))).toInt8.toInt32)) := (hC hc2_1 hc10_4).2.2
      refine own_go (fun t_ k => XS.icmpNo X0.here hx rfl (hb hby d2_58) rfl (teq hc58_7).2 k) ?_
      show WP p e below _ (s₁.setTop (mkF m 61 #[.val (.ref a1), .val (.int p2), .val (.int p3), .val (.int p4), .val (.int p5), .val (.int p6), .val (.ref a7), .val (.int (((p3 + p5) - (1 : Int32)) - p2)), .val (.int ((p4 / (powL.getD (((p3 + p5) - (1 : Int32)) - p2).toNatClampNeg 0)) % (10 : Int32)))] []))
      refine own_go (fun t_ k => XS.iconst X0.here hx rfl (hb hby d2_61) k) ?_
      show WP p e below _ (s₁.setTop (mkF m 62 #[.val (.ref a1), .val (.int p2), .val (.int p3), .val (.int p4), .val (.int p5), .val (.int p6), .val (.ref a7), .val (.int (((p3 + p5) - (1 : Int32)) - p2)), .val (.int ((p4 / (powL.getD (((p3 + p5) - (1 : Int32)) - p2).toNatClampNeg 0)) % (10 : Int32)))] [(.int (1 : Int32))]))
      refine own_go (fun t_ k => XS.goto X0.here hx rfl (pc0 := 62) (pc' := 66) rfl (hb hby d2_62) (by decide) (by decide) k) ?_
      show WP p e below _ (s₁.setTop (mkF m 66 #[.val (.ref a1), .val (.int p2), .val (.int p3), .val (.int p4), .val (.int p5), .val (.int p6), .val (.ref a7), .val (.int (((p3 + p5) - (1 : Int32)) - p2)), .val (.int ((p4 / (powL.getD (((p3 + p5) - (1 : Int32)) - p2).toNatClampNeg 0)) % (10 : Int32)))] [(.int (1 : Int32))]))
      exact own_retZ X0 hx Bd.notSynchronized Bd.returns (hb hby d2_66) (by decide) (show PQ h0 n0 (.int (1 : Int32)) _ _ _ from ⟨rfl, N0, e0⟩) (by decide) (by decide)
    · refine own_go (fun t_ k => XS.icmpNo X0.here hx rfl (hb hby d2_10) rfl (flt hc10_4).1 k) ?_
      show WP p e below _ (s₁.setTop (mkF m 13 #[.val (.ref a1), .val (.int p2), .val (.int p3), .val (.int p4), .val (.int p5), .val (.int p6), .val (.ref a7), .unset, .unset] []))
      refine own_go (fun t_ k => XS.aloadN X0.here hx rfl (hb hby d2_13) rfl rfl k) ?_
      show WP p e below _ (s₁.setTop (mkF m 14 #[.val (.ref a1), .val (.int p2), .val (.int p3), .val (.int p4), .val (.int p5), .val (.int p6), .val (.ref a7), .unset, .unset] [(.ref a1)]))
      refine own_go (fun t_ k => XS.iloadN X0.here hx rfl (hb hby d2_14) rfl k) ?_
      show WP p e below _ (s₁.setTop (mkF m 15 #[.val (.ref a1), .val (.int p2), .val (.int p3), .val (.int p4), .val (.int p5), .val (.int p6), .val (.ref a7), .unset, .unset] [(.int p2), (.ref a1)]))
      obtain ⟨cl8, Ar8, -, S8, M8, H8, -⟩ := id (V_o)
      have hin8 : ¬ (p2 < 0 ∨ cl8.slots.size ≤ (p2).toNatClampNeg) := inb_of S8 (hi)
      refine own_go (fun t_ k => X0.baloadBytes hx (j := p2) (v := (.int (xs.getD p2.toNatClampNeg 0))) (by rw [e0]; exact Ar8.1) (State.isArrayOf_alike hZ.alike Ar8.2.1) Ar8.2.2 hin8 (H8.at hin8 (own_at xs _)) (g := (mkF m 15 #[.val (.ref a1), .val (.int p2), .val (.int p3), .val (.int p4), .val (.int p5), .val (.int p6), .val (.ref a7), .unset, .unset] [(.int p2), (.ref a1)])) rfl rfl (hb hby d2_15) _ k) ?_
      show WP p e below _ (s₁.setTop (mkF m 16 #[.val (.ref a1), .val (.int p2), .val (.int p3), .val (.int p4), .val (.int p5), .val (.int p6), .val (.ref a7), .unset, .unset] [(.int (xs.getD p2.toNatClampNeg 0))]))
      refine own_go (fun t_ k => XS.iload X0.here hx rfl (hb hby d2_16) rfl k) ?_
      show WP p e below _ (s₁.setTop (mkF m 18 #[.val (.ref a1), .val (.int p2), .val (.int p3), .val (.int p4), .val (.int p5), .val (.int p6), .val (.ref a7), .unset, .unset] [(.int p6), (.int (xs.getD p2.toNatClampNeg 0))]))
      have hc18_9 : ((xs.getD p2.toNatClampNeg 0) = p6) := hA (Or.inr hc10_4)
      refine own_go (fun t_ k => XS.icmpNo X0.here hx rfl (hb hby d2_18) rfl (teq hc18_9).2 k) ?_
      show WP p e below _ (s₁.setTop (mkF m 21 #[.val (.ref a1), .val (.int p2), .val (.int p3), .val (.int p4), .val (.int p5), .val (.int p6), .val (.ref a7), .unset, .unset] []))
      refine own_go (fun t_ k => XS.iconst X0.here hx rfl (hb hby d2_21) k) ?_
      show WP p e below _ (s₁.setTop (mkF m 22 #[.val (.ref a1), .val (.int p2), .val (.int p3), .val (.int p4), .val (.int p5), .val (.int p6), .val (.ref a7), .unset, .unset] [(.int (1 : Int32))]))
      refine own_go (fun t_ k => XS.goto X0.here hx rfl (pc0 := 22) (pc' := 26) rfl (hb hby d2_22) (by decide) (by decide) k) ?_
      show WP p e below _ (s₁.setTop (mkF m 26 #[.val (.ref a1), .val (.int p2), .val (.int p3), .val (.int p4), .val (.int p5), .val (.int p6), .val (.ref a7), .unset, .unset] [(.int (1 : Int32))]))
      exact own_retZ X0 hx Bd.notSynchronized Bd.returns (hb hby d2_26) (by decide) (show PQ h0 n0 (.int (1 : Int32)) _ _ _ from ⟨rfl, N0, e0⟩) (by decide) (by decide)
theorem own_w {p v : Int32} (h : ((2 : Int32) * ((p &&& (2147483647 : Int32)) % (6 : Int32))) = v) : ∃ M : Nat, v.toInt = 2 * (M : Int) ∧ M ≤ 5 := by
  have a1 := c_mask p 2147483647 31 (by decide) (by decide)
  have a2 := (c_irem (p &&& 2147483647) 6 6 rfl).1
  have a3 := c_imul 2 ((p &&& 2147483647) % 6)
  have o : (2 : Int32).toInt = 2 := rfl
  rw [h, o] at a3
  have r := rng32 v
  exact ⟨((p &&& 2147483647) % 6).toInt.toNat, by omega, by omega⟩
theorem own_p {p v : Int32} (h : (p &&& (3 : Int32)) = v) : ∃ P : Nat, v.toInt = (P : Int) ∧ P ≤ 3 := by
  have a1 := c_mask p 3 2 (by decide) (by decide)
  rw [h] at a1
  exact ⟨v.toInt.toNat, by omega, by omega⟩
theorem own_pw (i : Nat) (h : i < 10) : (powL.getD i 0).toInt = 10 ^ i ∧ powL.getD i 0 ≠ 0 ∧ powL.getD i 0 ≠ -1 := by
  have : ∀ i : Fin 10, (powL.getD i.val 0).toInt = 10 ^ i.val ∧ powL.getD i.val 0 ≠ 0 ∧ powL.getD i.val 0 ≠ -1 := by decide +kernel
  exact this ⟨i, h⟩
theorem own_win {v : Int32} {M : Nat} (hM : v.toInt = 2 * (M : Int)) (hM5 : M ≤ 5) (h : ¬ v = (10 : Int32)) : (¬ v < 0 ∧ v < (10 : Int32)) ∧ v.toNatClampNeg < 10 := by
  have o0 : (0 : Int32).toInt = 0 := rfl
  have o1 : (10 : Int32).toInt = 10 := rfl
  rw [← Int32.toInt_inj] at h
  simp only [Int32.lt_iff_toInt_lt, Int32.toNatClampNeg]
  omega
theorem own_num {n w v z : Int32} (h : (n &&& (2147483647 : Int32)) = w) (hz : z = (if v = (10 : Int32) then w else (w % (powL.getD v.toNatClampNeg 0)))) : 0 ≤ z.toInt := by
  have a1 := c_mask n 2147483647 31 (by decide) (by decide)
  rw [h] at a1
  rw [hz]
  split
  · omega
  · rw [Int32.toInt_mod]
    exact Int.tmod_nonneg _ (by omega)
theorem own_spec {f : Int32} {N P M : Nat} (hf : f.toInt8.toInt32 = f) (hP3 : P ≤ 3) (hM5 : M ≤ 5) : ∀ j : Nat, j < 16 → (putL P [f.toInt8.toInt32, f.toInt8.toInt32, f.toInt8.toInt32, f.toInt8.toInt32, f.toInt8.toInt32, f.toInt8.toInt32, f.toInt8.toInt32, f.toInt8.toInt32, f.toInt8.toInt32, f.toInt8.toInt32, f.toInt8.toInt32, f.toInt8.toInt32, f.toInt8.toInt32, f.toInt8.toInt32, f.toInt8.toInt32, f.toInt8.toInt32] N M).getD j 0 = if P ≤ j ∧ j < P + 2 * M then Int32.ofNat (48 + N / 10 ^ (P + 2 * M - 1 - j) % 10) else f := by
  intro j hj
  rw [putL_at P M _ N j (by show _ ≤ 16; omega)]
  by_cases c : P ≤ j ∧ j < P + 2 * M
  · rw [if_pos c, if_pos c]
  · rw [if_neg c, if_neg c, hf]
    have : ∀ j : Nat, j < 16 → List.getD [f, f, f, f, f, f, f, f, f, f, f, f, f, f, f, f] j 0 = f := by
      intro j hj
      match j, hj with
      | 0, _ => rfl
      | 1, _ => rfl
      | 2, _ => rfl
      | 3, _ => rfl
      | 4, _ => rfl
      | 5, _ => rfl
      | 6, _ => rfl
      | 7, _ => rfl
      | 8, _ => rfl
      | 9, _ => rfl
      | 10, _ => rfl
      | 11, _ => rfl
      | 12, _ => rfl
      | 13, _ => rfl
      | 14, _ => rfl
      | 15, _ => rfl
      | n + 16, h => exact absurd h (by omega)
    exact this j hj
theorem own_A {ys : List Int32} {f p w : Int32} {N P M : Nat} (hs : ∀ j : Nat, j < 16 → ys.getD j 0 = if P ≤ j ∧ j < P + 2 * M then Int32.ofNat (48 + N / 10 ^ (P + 2 * M - 1 - j) % 10) else f) (hP : p.toInt = (P : Int)) (hM : w.toInt = 2 * (M : Int)) (hP3 : P ≤ 3) (hM5 : M ≤ 5) (i : Int32) (h0 : 0 ≤ i.toInt) (h1 : i.toInt < 16) : (i < p ∨ ¬ i < (p + w)) → ys.getD i.toNatClampNeg 0 = f := by
  intro q
  have e := (own_i0 hP hP3 hM hM5).2
  have n : (i.toNatClampNeg : Int) = i.toInt := by simp only [Int32.toNatClampNeg]; omega
  rw [hs _ (by omega), if_neg]
  simp only [Int32.lt_iff_toInt_lt] at q
  omega
theorem own_C {ys : List Int32} {f p w num : Int32} {P M : Nat} (hs : ∀ j : Nat, j < 16 → ys.getD j 0 = if P ≤ j ∧ j < P + 2 * M then Int32.ofNat (48 + num.toInt.toNat / 10 ^ (P + 2 * M - 1 - j) % 10) else f) (hP : p.toInt = (P : Int)) (hM : w.toInt = 2 * (M : Int)) (hP3 : P ≤ 3) (hM5 : M ≤ 5) (hN : 0 ≤ num.toInt) (i : Int32) (h0 : 0 ≤ i.toInt) (h1 : i.toInt < 16) : ¬ i < p → i < (p + w) →
    (¬ (((p + w) - (1 : Int32)) - i) < 0 ∧ (((p + w) - (1 : Int32)) - i) < (10 : Int32)) ∧ (powL.getD (((p + w) - (1 : Int32)) - i).toNatClampNeg 0) ≠ 0 ∧ ys.getD i.toNatClampNeg 0 = (((48 : Int32) + ((num / (powL.getD (((p + w) - (1 : Int32)) - i).toNatClampNeg 0)) % (10 : Int32))).toInt8.toInt32) := by
  intro q1 q2
  have e := (own_i0 hP hP3 hM hM5).2
  have n : (i.toNatClampNeg : Int) = i.toInt := by simp only [Int32.toNatClampNeg]; omega
  have a1 := c_isub (p + w) 1
  have a2 := c_isub ((p + w) - 1) i
  have o0 : (0 : Int32).toInt = 0 := rfl
  have o1 : (1 : Int32).toInt = 1 := rfl
  have o2 : (10 : Int32).toInt = 10 := rfl
  have o48 : (48 : Int32).toInt = 48 := rfl
  have r1 := rng32 ((p + w) - 1)
  have r2 := rng32 (((p + w) - 1) - i)
  simp only [Int32.lt_iff_toInt_lt] at q1 q2
  have ek : (((p + w) - (1 : Int32)) - i).toInt = (P : Int) + 2 * (M : Int) - 1 - i.toInt := by omega
  have nk : (((p + w) - (1 : Int32)) - i).toNatClampNeg = P + 2 * M - 1 - i.toNatClampNeg := by simp only [Int32.toNatClampNeg]; omega
  have pw := own_pw (P + 2 * M - 1 - i.toNatClampNeg) (by omega)
  rw [nk]
  refine ⟨by simp only [Int32.lt_iff_toInt_lt]; omega, pw.2.1, ?_⟩
  rw [hs _ (by omega), if_pos (by omega)]
  generalize P + 2 * M - 1 - i.toNatClampNeg = k at pw
  have b1 := (c_idiv num (powL.getD k 0) (10 ^ k) pw.1 pw.2.2).1 hN
  have p10 : (0 : Int) < 10 ^ k := by have : (0 : Nat) < 10 ^ k := Nat.pow_pos (by decide); exact_mod_cast this
  have b0 : 0 ≤ (num / powL.getD k 0).toInt := by rw [b1]; exact Int.ediv_nonneg hN (by omega)
  have b2 := (c_irem (num / powL.getD k 0) 10 10 rfl).1 b0
  have b3 := c_iadd 48 ((num / powL.getD k 0) % 10)
  have r3 := rng32 (48 + (num / powL.getD k 0) % 10)
  have en : num.toInt / 10 ^ k = ((num.toInt.toNat / 10 ^ k : Nat) : Int) := by
    rw [Int.natCast_ediv, Int.toNat_of_nonneg hN]; congr 1
  have ev : (48 : Int32) + (num / powL.getD k 0) % 10 = Int32.ofNat (48 + num.toInt.toNat / 10 ^ k % 10) := by
    apply Int32.toInt_inj.mp
    rw [Int32.toInt_ofNat_small (by omega)]
    rw [b1, en] at b2
    omega
  rw [ev, own_small _ (by omega)]
theorem pd_0 : parseMethodDescriptor "([BIII)I" = some ⟨[(.array .byte), .int, .int, .int], some .int⟩ := by decide +kernel
theorem pd_1 : parseMethodDescriptor "([BIIIIB[I)Z" = some ⟨[(.array .byte), .int, .int, .int, .int, .byte, (.array .int)], some .boolean⟩ := by decide +kernel
theorem own_law_1 {p1 : Int32} {p2 : Int32} {p3 : Int32} {p4 : Int32} {vi1 : Int32} {vi2 : Int32} {vi24 : Int32} {z26_S0 : Int32} {vi28 : Int32} {vi63 : Int32} {z65_S0 : Int32}
    (he1 : ((2 : Int32) * ((p3 &&& (2147483647 : Int32)) % (6 : Int32))) = vi1)
    (he2 : (p1 &&& (3 : Int32)) = vi2)
    (he24 : (p2 &&& (2147483647 : Int32)) = vi24)
    (hz26_S0 : z26_S0 = (if vi1 = (10 : Int32) then vi24 else (vi24 % (powL.getD vi1.toNatClampNeg 0))))
    (he28 : (p4.toInt8.toInt32) = vi28)
    (he63 : (vi2 + vi1) = vi63)
    (hz65_S0 : z65_S0 = (if vi63 = (vi2 + vi1) then (1 : Int32) else (0 : Int32)))  : z65_S0 = 1 := by
  simp_all
theorem ef_rm0 (m : MethodId) (x0 : Int32) (x1 : Int32) (x2 : Int32) (x3 : Int32) : entryFrame m #[(.int x0), (.int x1), (.int x2), (.int x3)] maxLocals = mkF m 0 #[.val (.int x0), .val (.int x1), .val (.int x2), .val (.int x3), .unset, .unset, .unset, .unset, .unset, .unset, .unset, .unset] [] := by first | (simp [entryFrame, mkF, argsToLocals, Value.category, maxLocals]; done) | rfl
set_option maxRecDepth 65536 in
set_option maxHeartbeats 40000000 in
theorem rm0 (l : Launch) (Z : State) (a0 : Array Value) (hw : ∀ d ∈ tables_1, d.before a0 Z = true) (ws : List Jvm.Cond) (p1 : Int32) (p2 : Int32) (p3 : Int32) (p4 : Int32) (tt : Addr) (kt : ClassId) (to : Addr) (ko : ClassId) (h0 : Heap) (n0 : Nat) (Z0 : n0 ≤ h0.size) (S_t : Sta Z h0 "com/example/bittern/bittern/Digits" "TENS" "[B" (.ref tt)) (V_t : Arv Z h0 tt kt .byte (100 : Int32) (TL.map Value.int) (.int (0 : Int32))) (S_o : Sta Z h0 "com/example/bittern/bittern/Digits" "ONES" "[B" (.ref to)) (V_o : Arv Z h0 to ko .byte (100 : Int32) (OL.map Value.int) (.int (0 : Int32))) :
    MetFree l x (head1 (Jvm.Cond.code x code maxLocals ret :: ws) room_1) (fun a U => a = #[(.int p1), (.int p2), (.int p3), (.int p4)] ∧ Z.Warmed39 U.vm ∧ U.heap = h0) (fun _ _ _ _ _ => True) (fun _ U o U' => ∃ v L, o = .returned v ∧ (Q0 n0) v U'.heap L ∧ FrameEnd U o U' L room_1.cells room_1.slots) := by
  refine MetFree.of_bodySF (plainFor_of_name pn_1) hisR ?_
  intro p e s m args below meth c s₁ Bd hml0 hP hK
  obtain ⟨rfl, hZ, hh⟩ := hP
  have hx := Bd.exec
  have hby := Bd.bytes
  have hml : c.maxLocals = 12 := hml0
  have hown : s.vm.findClass "com/example/bittern/bittern/DigitsPutPinLaw" = some m.cls := findClass_of_methodNamed Bd.named
  have hnm := (name_of_methodNamed Bd.named Bd.method).1
  have X0 : Stand p l e room_1 s m #[(.int p1), (.int p2), (.int p3), (.int p4)] below meth c s₁ [] 0 0 := Stand.of_body Bd
  have e0 : s₁.heap = h0 := by rw [← hh, Bd.state]; rfl
  have N0 := Fr.nil n0
  show WP p e below (GG (Q0 n0) s room_1.cells room_1.slots) (s₁.setTop (entryFrame m #[(.int p1), (.int p2), (.int p3), (.int p4)] maxLocals))
  rw [ef_rm0 m p1 p2 p3 p4]
  show WP p e below _ (s₁.setTop (mkF m 0 #[.val (.int p1), .val (.int p2), .val (.int p3), .val (.int p4), .unset, .unset, .unset, .unset, .unset, .unset, .unset, .unset] []))
  refine own_go (fun t_ k => XS.iconst X0.here hx rfl (hb hby at_0) k) ?_
  show WP p e below _ (s₁.setTop (mkF m 1 #[.val (.int p1), .val (.int p2), .val (.int p3), .val (.int p4), .unset, .unset, .unset, .unset, .unset, .unset, .unset, .unset] [(.int (2 : Int32))]))
  refine own_go (fun t_ k => XS.iloadN X0.here hx rfl (hb hby at_1) rfl k) ?_
  show WP p e below _ (s₁.setTop (mkF m 2 #[.val (.int p1), .val (.int p2), .val (.int p3), .val (.int p4), .unset, .unset, .unset, .unset, .unset, .unset, .unset, .unset] [(.int p3), (.int (2 : Int32))]))
  refine own_go (fun t_ k => X0.ldcInt hx hown (mvT hZ (hw _ (List.mem_of_getElem? (i := 0) rfl))) (g := (mkF m 2 #[.val (.int p1), .val (.int p2), .val (.int p3), .val (.int p4), .unset, .unset, .unset, .unset, .unset, .unset, .unset, .unset] [(.int p3), (.int (2 : Int32))])) rfl (hb hby at_2) _ k) ?_
  show WP p e below _ (s₁.setTop (mkF m 4 #[.val (.int p1), .val (.int p2), .val (.int p3), .val (.int p4), .unset, .unset, .unset, .unset, .unset, .unset, .unset, .unset] [(.int (2147483647 : Int32)), (.int p3), (.int (2 : Int32))]))
  refine own_go (fun t_ k => XS.iand X0.here hx rfl (hb hby at_4) rfl k) ?_
  show WP p e below _ (s₁.setTop (mkF m 5 #[.val (.int p1), .val (.int p2), .val (.int p3), .val (.int p4), .unset, .unset, .unset, .unset, .unset, .unset, .unset, .unset] [(.int (p3 &&& (2147483647 : Int32))), (.int (2 : Int32))]))
  refine own_go (fun t_ k => XS.bipush X0.here hx rfl (hb hby at_5) k) ?_
  show WP p e below _ (s₁.setTop (mkF m 7 #[.val (.int p1), .val (.int p2), .val (.int p3), .val (.int p4), .unset, .unset, .unset, .unset, .unset, .unset, .unset, .unset] [(.int (6 : Int32)), (.int (p3 &&& (2147483647 : Int32))), (.int (2 : Int32))]))
  refine own_go (fun t_ k => iremM X0 hx rfl (hb hby at_7) rfl (by decide) k) ?_
  show WP p e below _ (s₁.setTop (mkF m 8 #[.val (.int p1), .val (.int p2), .val (.int p3), .val (.int p4), .unset, .unset, .unset, .unset, .unset, .unset, .unset, .unset] [(.int ((p3 &&& (2147483647 : Int32)) % (6 : Int32))), (.int (2 : Int32))]))
  refine own_go (fun t_ k => XS.imul X0.here hx rfl (hb hby at_8) rfl k) ?_
  show WP p e below _ (s₁.setTop (mkF m 9 #[.val (.int p1), .val (.int p2), .val (.int p3), .val (.int p4), .unset, .unset, .unset, .unset, .unset, .unset, .unset, .unset] [(.int ((2 : Int32) * ((p3 &&& (2147483647 : Int32)) % (6 : Int32))))]))
  refine own_go (fun t_ k => XS.istore X0.here hx rfl (hb hby at_9) rfl (l' := #[.val (.int p1), .val (.int p2), .val (.int p3), .val (.int p4), .val (.int ((2 : Int32) * ((p3 &&& (2147483647 : Int32)) % (6 : Int32)))), .unset, .unset, .unset, .unset, .unset, .unset, .unset]) rfl k) ?_
  show WP p e below _ (s₁.setTop (mkF m 11 #[.val (.int p1), .val (.int p2), .val (.int p3), .val (.int p4), .val (.int ((2 : Int32) * ((p3 &&& (2147483647 : Int32)) % (6 : Int32)))), .unset, .unset, .unset, .unset, .unset, .unset, .unset] []))
  generalize he1 : ((2 : Int32) * ((p3 &&& (2147483647 : Int32)) % (6 : Int32))) = vi1
  show WP p e below _ (s₁.setTop (mkF m 11 #[.val (.int p1), .val (.int p2), .val (.int p3), .val (.int p4), .val (.int vi1), .unset, .unset, .unset, .unset, .unset, .unset, .unset] []))
  refine own_go (fun t_ k => XS.iloadN X0.here hx rfl (hb hby at_11) rfl k) ?_
  show WP p e below _ (s₁.setTop (mkF m 12 #[.val (.int p1), .val (.int p2), .val (.int p3), .val (.int p4), .val (.int vi1), .unset, .unset, .unset, .unset, .unset, .unset, .unset] [(.int p1)]))
  refine own_go (fun t_ k => XS.iconst X0.here hx rfl (hb hby at_12) k) ?_
  show WP p e below _ (s₁.setTop (mkF m 13 #[.val (.int p1), .val (.int p2), .val (.int p3), .val (.int p4), .val (.int vi1), .unset, .unset, .unset, .unset, .unset, .unset, .unset] [(.int (3 : Int32)), (.int p1)]))
  refine own_go (fun t_ k => XS.iand X0.here hx rfl (hb hby at_13) rfl k) ?_
  show WP p e below _ (s₁.setTop (mkF m 14 #[.val (.int p1), .val (.int p2), .val (.int p3), .val (.int p4), .val (.int vi1), .unset, .unset, .unset, .unset, .unset, .unset, .unset] [(.int (p1 &&& (3 : Int32)))]))
  refine own_go (fun t_ k => XS.istore X0.here hx rfl (hb hby at_14) rfl (l' := #[.val (.int p1), .val (.int p2), .val (.int p3), .val (.int p4), .val (.int vi1), .val (.int (p1 &&& (3 : Int32))), .unset, .unset, .unset, .unset, .unset, .unset]) rfl k) ?_
  show WP p e below _ (s₁.setTop (mkF m 16 #[.val (.int p1), .val (.int p2), .val (.int p3), .val (.int p4), .val (.int vi1), .val (.int (p1 &&& (3 : Int32))), .unset, .unset, .unset, .unset, .unset, .unset] []))
  generalize he2 : (p1 &&& (3 : Int32)) = vi2
  obtain ⟨M, hM, hM5⟩ := own_w he1
  obtain ⟨P, hP, hP3⟩ := own_p he2
  show WP p e below _ (s₁.setTop (mkF m 16 #[.val (.int p1), .val (.int p2), .val (.int p3), .val (.int p4), .val (.int vi1), .val (.int vi2), .unset, .unset, .unset, .unset, .unset, .unset] []))
  refine own_go (fun t_ k => XS.bipush X0.here hx rfl (hb hby at_16) k) ?_
  show WP p e below _ (s₁.setTop (mkF m 18 #[.val (.int p1), .val (.int p2), .val (.int p3), .val (.int p4), .val (.int vi1), .val (.int vi2), .unset, .unset, .unset, .unset, .unset, .unset] [(.int (10 : Int32))]))
  obtain ⟨T3, h3, k3, X3, e3, E3, A3, st3⟩ := newP X0 hx hZ (hw _ (List.mem_of_getElem? (i := 1) rfl)) e0 (g := (mkF m 18 #[.val (.int p1), .val (.int p2), .val (.int p3), .val (.int p4), .val (.int vi1), .val (.int vi2), .unset, .unset, .unset, .unset, .unset, .unset] [(.int (10 : Int32))])) rfl (hb hby at_18) rfl (by decide) (cap := 10) (by decide) (by decide) (by decide) (by decide)
  obtain ⟨b3, g3⟩ : ∃ z, z = Array.size h0 := ⟨_, rfl⟩
  rw [← g3] at A3 st3
  refine own_go st3 ?_
  have g_b3 : n0 ≤ b3 := Nat.le_trans (Nat.le_trans Z0 (Keep.refl h0 []).1) (Nat.le_of_eq g3.symm)
  have sz_b3 : h0.size ≤ b3 := Nat.le_trans (Keep.refl h0 []).1 (Nat.le_of_eq g3.symm)
  have ne_tt_b3 : tt ≠ b3 := Nat.ne_of_lt (Nat.lt_of_lt_of_le V_t.lt (Nat.le_of_eq g3.symm))
  have ne_to_b3 : to ≠ b3 := Nat.ne_of_lt (Nat.lt_of_lt_of_le V_o.lt (Nat.le_of_eq g3.symm))
  have K3 : Keep h0 h3 [] := (Keep.refl h0 []).ext E3
  have V3 : Arv Z h3 b3 k3 .int (10 : Int32) [(.int (0 : Int32)), (.int (0 : Int32)), (.int (0 : Int32)), (.int (0 : Int32)), (.int (0 : Int32)), (.int (0 : Int32)), (.int (0 : Int32)), (.int (0 : Int32)), (.int (0 : Int32)), (.int (0 : Int32))] (.int (0 : Int32)) := (Arv.new A3 (by decide)).pad (pad_rep [] (.int (0 : Int32)) 10)
  show WP p e below _ (T3.setTop (mkF m 20 #[.val (.int p1), .val (.int p2), .val (.int p3), .val (.int p4), .val (.int vi1), .val (.int vi2), .unset, .unset, .unset, .unset, .unset, .unset] [(.ref b3)]))
  refine own_go (fun t_ k => XS.dup X3.here hx rfl (hb hby at_20) rfl rfl k) ?_
  show WP p e below _ (T3.setTop (mkF m 21 #[.val (.int p1), .val (.int p2), .val (.int p3), .val (.int p4), .val (.int vi1), .val (.int vi2), .unset, .unset, .unset, .unset, .unset, .unset] [(.ref b3), (.ref b3)]))
  refine own_go (fun t_ k => XS.iconst X3.here hx rfl (hb hby at_21) k) ?_
  show WP p e below _ (T3.setTop (mkF m 22 #[.val (.int p1), .val (.int p2), .val (.int p3), .val (.int p4), .val (.int vi1), .val (.int vi2), .unset, .unset, .unset, .unset, .unset, .unset] [(.int (0 : Int32)), (.ref b3), (.ref b3)]))
  refine own_go (fun t_ k => XS.iconst X3.here hx rfl (hb hby at_22) k) ?_
  show WP p e below _ (T3.setTop (mkF m 23 #[.val (.int p1), .val (.int p2), .val (.int p3), .val (.int p4), .val (.int vi1), .val (.int vi2), .unset, .unset, .unset, .unset, .unset, .unset] [(.int (1 : Int32)), (.int (0 : Int32)), (.ref b3), (.ref b3)]))
  obtain ⟨cl4, Ar4, q4, S4, M4, H4, G4⟩ := id (V3)
  have hin4 : ¬ ((0 : Int32) < 0 ∨ cl4.slots.size ≤ ((0 : Int32)).toNatClampNeg) := inb_of S4 (⟨by decide, by decide⟩)
  obtain ⟨T5, h5, X5, e5, W5, st5⟩ := stI X3 hx hZ e3 Ar4 (j := (0 : Int32)) hin4 (g := (mkF m 23 #[.val (.int p1), .val (.int p2), .val (.int p3), .val (.int p4), .val (.int vi1), .val (.int vi2), .unset, .unset, .unset, .unset, .unset, .unset] [(.int (1 : Int32)), (.int (0 : Int32)), (.ref b3), (.ref b3)])) rfl rfl (hb hby at_23)
  refine own_go st5 ?_
  have V5 : Arv Z h5 b3 k3 .int (10 : Int32) [(.int (1 : Int32)), (.int (0 : Int32)), (.int (0 : Int32)), (.int (0 : Int32)), (.int (0 : Int32)), (.int (0 : Int32)), (.int (0 : Int32)), (.int (0 : Int32)), (.int (0 : Int32)), (.int (0 : Int32))] (.int (0 : Int32)) := Arv.set Ar4 q4 S4 M4 H4 G4 rfl W5 0 rfl (Nat.le_of_ble_eq_true rfl)
  have N5 := Fr.snoc X5 N0 g_b3
  have K5 : Keep h0 h5 [] := K3.wr W5 (Or.inr sz_b3)
  show WP p e below _ (T5.setTop (mkF m 24 #[.val (.int p1), .val (.int p2), .val (.int p3), .val (.int p4), .val (.int vi1), .val (.int vi2), .unset, .unset, .unset, .unset, .unset, .unset] [(.ref b3)]))
  refine own_go (fun t_ k => XS.dup X5.here hx rfl (hb hby at_24) rfl rfl k) ?_
  show WP p e below _ (T5.setTop (mkF m 25 #[.val (.int p1), .val (.int p2), .val (.int p3), .val (.int p4), .val (.int vi1), .val (.int vi2), .unset, .unset, .unset, .unset, .unset, .unset] [(.ref b3), (.ref b3)]))
  refine own_go (fun t_ k => XS.iconst X5.here hx rfl (hb hby at_25) k) ?_
  show WP p e below _ (T5.setTop (mkF m 26 #[.val (.int p1), .val (.int p2), .val (.int p3), .val (.int p4), .val (.int vi1), .val (.int vi2), .unset, .unset, .unset, .unset, .unset, .unset] [(.int (1 : Int32)), (.ref b3), (.ref b3)]))
  refine own_go (fun t_ k => XS.bipush X5.here hx rfl (hb hby at_26) k) ?_
  show WP p e below _ (T5.setTop (mkF m 28 #[.val (.int p1), .val (.int p2), .val (.int p3), .val (.int p4), .val (.int vi1), .val (.int vi2), .unset, .unset, .unset, .unset, .unset, .unset] [(.int (10 : Int32)), (.int (1 : Int32)), (.ref b3), (.ref b3)]))
  obtain ⟨cl6, Ar6, q6, S6, M6, H6, G6⟩ := id (V5)
  have hin6 : ¬ ((1 : Int32) < 0 ∨ cl6.slots.size ≤ ((1 : Int32)).toNatClampNeg) := inb_of S6 (⟨by decide, by decide⟩)
  obtain ⟨T7, h7, X7, e7, W7, st7⟩ := stI X5 hx hZ e5 Ar6 (j := (1 : Int32)) hin6 (g := (mkF m 28 #[.val (.int p1), .val (.int p2), .val (.int p3), .val (.int p4), .val (.int vi1), .val (.int vi2), .unset, .unset, .unset, .unset, .unset, .unset] [(.int (10 : Int32)), (.int (1 : Int32)), (.ref b3), (.ref b3)])) rfl rfl (hb hby at_28)
  refine own_go st7 ?_
  have V7 : Arv Z h7 b3 k3 .int (10 : Int32) [(.int (1 : Int32)), (.int (10 : Int32)), (.int (0 : Int32)), (.int (0 : Int32)), (.int (0 : Int32)), (.int (0 : Int32)), (.int (0 : Int32)), (.int (0 : Int32)), (.int (0 : Int32)), (.int (0 : Int32))] (.int (0 : Int32)) := Arv.set Ar6 q6 S6 M6 H6 G6 rfl W7 1 rfl (Nat.le_of_ble_eq_true rfl)
  have N7 := Fr.snoc X7 N5 g_b3
  have K7 : Keep h0 h7 [] := K5.wr W7 (Or.inr sz_b3)
  show WP p e below _ (T7.setTop (mkF m 29 #[.val (.int p1), .val (.int p2), .val (.int p3), .val (.int p4), .val (.int vi1), .val (.int vi2), .unset, .unset, .unset, .unset, .unset, .unset] [(.ref b3)]))
  refine own_go (fun t_ k => XS.dup X7.here hx rfl (hb hby at_29) rfl rfl k) ?_
  show WP p e below _ (T7.setTop (mkF m 30 #[.val (.int p1), .val (.int p2), .val (.int p3), .val (.int p4), .val (.int vi1), .val (.int vi2), .unset, .unset, .unset, .unset, .unset, .unset] [(.ref b3), (.ref b3)]))
  refine own_go (fun t_ k => XS.iconst X7.here hx rfl (hb hby at_30) k) ?_
  show WP p e below _ (T7.setTop (mkF m 31 #[.val (.int p1), .val (.int p2), .val (.int p3), .val (.int p4), .val (.int vi1), .val (.int vi2), .unset, .unset, .unset, .unset, .unset, .unset] [(.int (2 : Int32)), (.ref b3), (.ref b3)]))
  refine own_go (fun t_ k => XS.bipush X7.here hx rfl (hb hby at_31) k) ?_
  show WP p e below _ (T7.setTop (mkF m 33 #[.val (.int p1), .val (.int p2), .val (.int p3), .val (.int p4), .val (.int vi1), .val (.int vi2), .unset, .unset, .unset, .unset, .unset, .unset] [(.int (100 : Int32)), (.int (2 : Int32)), (.ref b3), (.ref b3)]))
  obtain ⟨cl8, Ar8, q8, S8, M8, H8, G8⟩ := id (V7)
  have hin8 : ¬ ((2 : Int32) < 0 ∨ cl8.slots.size ≤ ((2 : Int32)).toNatClampNeg) := inb_of S8 (⟨by decide, by decide⟩)
  obtain ⟨T9, h9, X9, e9, W9, st9⟩ := stI X7 hx hZ e7 Ar8 (j := (2 : Int32)) hin8 (g := (mkF m 33 #[.val (.int p1), .val (.int p2), .val (.int p3), .val (.int p4), .val (.int vi1), .val (.int vi2), .unset, .unset, .unset, .unset, .unset, .unset] [(.int (100 : Int32)), (.int (2 : Int32)), (.ref b3), (.ref b3)])) rfl rfl (hb hby at_33)
  refine own_go st9 ?_
  have V9 : Arv Z h9 b3 k3 .int (10 : Int32) [(.int (1 : Int32)), (.int (10 : Int32)), (.int (100 : Int32)), (.int (0 : Int32)), (.int (0 : Int32)), (.int (0 : Int32)), (.int (0 : Int32)), (.int (0 : Int32)), (.int (0 : Int32)), (.int (0 : Int32))] (.int (0 : Int32)) := Arv.set Ar8 q8 S8 M8 H8 G8 rfl W9 2 rfl (Nat.le_of_ble_eq_true rfl)
  have N9 := Fr.snoc X9 N7 g_b3
  have K9 : Keep h0 h9 [] := K7.wr W9 (Or.inr sz_b3)
  show WP p e below _ (T9.setTop (mkF m 34 #[.val (.int p1), .val (.int p2), .val (.int p3), .val (.int p4), .val (.int vi1), .val (.int vi2), .unset, .unset, .unset, .unset, .unset, .unset] [(.ref b3)]))
  refine own_go (fun t_ k => XS.dup X9.here hx rfl (hb hby at_34) rfl rfl k) ?_
  show WP p e below _ (T9.setTop (mkF m 35 #[.val (.int p1), .val (.int p2), .val (.int p3), .val (.int p4), .val (.int vi1), .val (.int vi2), .unset, .unset, .unset, .unset, .unset, .unset] [(.ref b3), (.ref b3)]))
  refine own_go (fun t_ k => XS.iconst X9.here hx rfl (hb hby at_35) k) ?_
  show WP p e below _ (T9.setTop (mkF m 36 #[.val (.int p1), .val (.int p2), .val (.int p3), .val (.int p4), .val (.int vi1), .val (.int vi2), .unset, .unset, .unset, .unset, .unset, .unset] [(.int (3 : Int32)), (.ref b3), (.ref b3)]))
  refine own_go (fun t_ k => XS.sipush X9.here hx rfl (hb hby at_36) k) ?_
  show WP p e below _ (T9.setTop (mkF m 39 #[.val (.int p1), .val (.int p2), .val (.int p3), .val (.int p4), .val (.int vi1), .val (.int vi2), .unset, .unset, .unset, .unset, .unset, .unset] [(.int (1000 : Int32)), (.int (3 : Int32)), (.ref b3), (.ref b3)]))
  obtain ⟨cl10, Ar10, q10, S10, M10, H10, G10⟩ := id (V9)
  have hin10 : ¬ ((3 : Int32) < 0 ∨ cl10.slots.size ≤ ((3 : Int32)).toNatClampNeg) := inb_of S10 (⟨by decide, by decide⟩)
  obtain ⟨T11, h11, X11, e11, W11, st11⟩ := stI X9 hx hZ e9 Ar10 (j := (3 : Int32)) hin10 (g := (mkF m 39 #[.val (.int p1), .val (.int p2), .val (.int p3), .val (.int p4), .val (.int vi1), .val (.int vi2), .unset, .unset, .unset, .unset, .unset, .unset] [(.int (1000 : Int32)), (.int (3 : Int32)), (.ref b3), (.ref b3)])) rfl rfl (hb hby at_39)
  refine own_go st11 ?_
  have V11 : Arv Z h11 b3 k3 .int (10 : Int32) [(.int (1 : Int32)), (.int (10 : Int32)), (.int (100 : Int32)), (.int (1000 : Int32)), (.int (0 : Int32)), (.int (0 : Int32)), (.int (0 : Int32)), (.int (0 : Int32)), (.int (0 : Int32)), (.int (0 : Int32))] (.int (0 : Int32)) := Arv.set Ar10 q10 S10 M10 H10 G10 rfl W11 3 rfl (Nat.le_of_ble_eq_true rfl)
  have N11 := Fr.snoc X11 N9 g_b3
  have K11 : Keep h0 h11 [] := K9.wr W11 (Or.inr sz_b3)
  show WP p e below _ (T11.setTop (mkF m 40 #[.val (.int p1), .val (.int p2), .val (.int p3), .val (.int p4), .val (.int vi1), .val (.int vi2), .unset, .unset, .unset, .unset, .unset, .unset] [(.ref b3)]))
  refine own_go (fun t_ k => XS.dup X11.here hx rfl (hb hby at_40) rfl rfl k) ?_
  show WP p e below _ (T11.setTop (mkF m 41 #[.val (.int p1), .val (.int p2), .val (.int p3), .val (.int p4), .val (.int vi1), .val (.int vi2), .unset, .unset, .unset, .unset, .unset, .unset] [(.ref b3), (.ref b3)]))
  refine own_go (fun t_ k => XS.iconst X11.here hx rfl (hb hby at_41) k) ?_
  show WP p e below _ (T11.setTop (mkF m 42 #[.val (.int p1), .val (.int p2), .val (.int p3), .val (.int p4), .val (.int vi1), .val (.int vi2), .unset, .unset, .unset, .unset, .unset, .unset] [(.int (4 : Int32)), (.ref b3), (.ref b3)]))
  refine own_go (fun t_ k => XS.sipush X11.here hx rfl (hb hby at_42) k) ?_
  show WP p e below _ (T11.setTop (mkF m 45 #[.val (.int p1), .val (.int p2), .val (.int p3), .val (.int p4), .val (.int vi1), .val (.int vi2), .unset, .unset, .unset, .unset, .unset, .unset] [(.int (10000 : Int32)), (.int (4 : Int32)), (.ref b3), (.ref b3)]))
  obtain ⟨cl12, Ar12, q12, S12, M12, H12, G12⟩ := id (V11)
  have hin12 : ¬ ((4 : Int32) < 0 ∨ cl12.slots.size ≤ ((4 : Int32)).toNatClampNeg) := inb_of S12 (⟨by decide, by decide⟩)
  obtain ⟨T13, h13, X13, e13, W13, st13⟩ := stI X11 hx hZ e11 Ar12 (j := (4 : Int32)) hin12 (g := (mkF m 45 #[.val (.int p1), .val (.int p2), .val (.int p3), .val (.int p4), .val (.int vi1), .val (.int vi2), .unset, .unset, .unset, .unset, .unset, .unset] [(.int (10000 : Int32)), (.int (4 : Int32)), (.ref b3), (.ref b3)])) rfl rfl (hb hby at_45)
  refine own_go st13 ?_
  have V13 : Arv Z h13 b3 k3 .int (10 : Int32) [(.int (1 : Int32)), (.int (10 : Int32)), (.int (100 : Int32)), (.int (1000 : Int32)), (.int (10000 : Int32)), (.int (0 : Int32)), (.int (0 : Int32)), (.int (0 : Int32)), (.int (0 : Int32)), (.int (0 : Int32))] (.int (0 : Int32)) := Arv.set Ar12 q12 S12 M12 H12 G12 rfl W13 4 rfl (Nat.le_of_ble_eq_true rfl)
  have N13 := Fr.snoc X13 N11 g_b3
  have K13 : Keep h0 h13 [] := K11.wr W13 (Or.inr sz_b3)
  show WP p e below _ (T13.setTop (mkF m 46 #[.val (.int p1), .val (.int p2), .val (.int p3), .val (.int p4), .val (.int vi1), .val (.int vi2), .unset, .unset, .unset, .unset, .unset, .unset] [(.ref b3)]))
  refine own_go (fun t_ k => XS.dup X13.here hx rfl (hb hby at_46) rfl rfl k) ?_
  show WP p e below _ (T13.setTop (mkF m 47 #[.val (.int p1), .val (.int p2), .val (.int p3), .val (.int p4), .val (.int vi1), .val (.int vi2), .unset, .unset, .unset, .unset, .unset, .unset] [(.ref b3), (.ref b3)]))
  refine own_go (fun t_ k => XS.iconst X13.here hx rfl (hb hby at_47) k) ?_
  show WP p e below _ (T13.setTop (mkF m 48 #[.val (.int p1), .val (.int p2), .val (.int p3), .val (.int p4), .val (.int vi1), .val (.int vi2), .unset, .unset, .unset, .unset, .unset, .unset] [(.int (5 : Int32)), (.ref b3), (.ref b3)]))
  refine own_go (fun t_ k => X13.ldcInt hx hown (mvT hZ (hw _ (List.mem_of_getElem? (i := 2) rfl))) (g := (mkF m 48 #[.val (.int p1), .val (.int p2), .val (.int p3), .val (.int p4), .val (.int vi1), .val (.int vi2), .unset, .unset, .unset, .unset, .unset, .unset] [(.int (5 : Int32)), (.ref b3), (.ref b3)])) rfl (hb hby at_48) _ k) ?_
  show WP p e below _ (T13.setTop (mkF m 50 #[.val (.int p1), .val (.int p2), .val (.int p3), .val (.int p4), .val (.int vi1), .val (.int vi2), .unset, .unset, .unset, .unset, .unset, .unset] [(.int (100000 : Int32)), (.int (5 : Int32)), (.ref b3), (.ref b3)]))
  obtain ⟨cl14, Ar14, q14, S14, M14, H14, G14⟩ := id (V13)
  have hin14 : ¬ ((5 : Int32) < 0 ∨ cl14.slots.size ≤ ((5 : Int32)).toNatClampNeg) := inb_of S14 (⟨by decide, by decide⟩)
  obtain ⟨T15, h15, X15, e15, W15, st15⟩ := stI X13 hx hZ e13 Ar14 (j := (5 : Int32)) hin14 (g := (mkF m 50 #[.val (.int p1), .val (.int p2), .val (.int p3), .val (.int p4), .val (.int vi1), .val (.int vi2), .unset, .unset, .unset, .unset, .unset, .unset] [(.int (100000 : Int32)), (.int (5 : Int32)), (.ref b3), (.ref b3)])) rfl rfl (hb hby at_50)
  refine own_go st15 ?_
  have V15 : Arv Z h15 b3 k3 .int (10 : Int32) [(.int (1 : Int32)), (.int (10 : Int32)), (.int (100 : Int32)), (.int (1000 : Int32)), (.int (10000 : Int32)), (.int (100000 : Int32)), (.int (0 : Int32)), (.int (0 : Int32)), (.int (0 : Int32)), (.int (0 : Int32))] (.int (0 : Int32)) := Arv.set Ar14 q14 S14 M14 H14 G14 rfl W15 5 rfl (Nat.le_of_ble_eq_true rfl)
  have N15 := Fr.snoc X15 N13 g_b3
  have K15 : Keep h0 h15 [] := K13.wr W15 (Or.inr sz_b3)
  show WP p e below _ (T15.setTop (mkF m 51 #[.val (.int p1), .val (.int p2), .val (.int p3), .val (.int p4), .val (.int vi1), .val (.int vi2), .unset, .unset, .unset, .unset, .unset, .unset] [(.ref b3)]))
  refine own_go (fun t_ k => XS.dup X15.here hx rfl (hb hby at_51) rfl rfl k) ?_
  show WP p e below _ (T15.setTop (mkF m 52 #[.val (.int p1), .val (.int p2), .val (.int p3), .val (.int p4), .val (.int vi1), .val (.int vi2), .unset, .unset, .unset, .unset, .unset, .unset] [(.ref b3), (.ref b3)]))
  refine own_go (fun t_ k => XS.bipush X15.here hx rfl (hb hby at_52) k) ?_
  show WP p e below _ (T15.setTop (mkF m 54 #[.val (.int p1), .val (.int p2), .val (.int p3), .val (.int p4), .val (.int vi1), .val (.int vi2), .unset, .unset, .unset, .unset, .unset, .unset] [(.int (6 : Int32)), (.ref b3), (.ref b3)]))
  refine own_go (fun t_ k => X15.ldcInt hx hown (mvT hZ (hw _ (List.mem_of_getElem? (i := 3) rfl))) (g := (mkF m 54 #[.val (.int p1), .val (.int p2), .val (.int p3), .val (.int p4), .val (.int vi1), .val (.int vi2), .unset, .unset, .unset, .unset, .unset, .unset] [(.int (6 : Int32)), (.ref b3), (.ref b3)])) rfl (hb hby at_54) _ k) ?_
  show WP p e below _ (T15.setTop (mkF m 56 #[.val (.int p1), .val (.int p2), .val (.int p3), .val (.int p4), .val (.int vi1), .val (.int vi2), .unset, .unset, .unset, .unset, .unset, .unset] [(.int (1000000 : Int32)), (.int (6 : Int32)), (.ref b3), (.ref b3)]))
  obtain ⟨cl16, Ar16, q16, S16, M16, H16, G16⟩ := id (V15)
  have hin16 : ¬ ((6 : Int32) < 0 ∨ cl16.slots.size ≤ ((6 : Int32)).toNatClampNeg) := inb_of S16 (⟨by decide, by decide⟩)
  obtain ⟨T17, h17, X17, e17, W17, st17⟩ := stI X15 hx hZ e15 Ar16 (j := (6 : Int32)) hin16 (g := (mkF m 56 #[.val (.int p1), .val (.int p2), .val (.int p3), .val (.int p4), .val (.int vi1), .val (.int vi2), .unset, .unset, .unset, .unset, .unset, .unset] [(.int (1000000 : Int32)), (.int (6 : Int32)), (.ref b3), (.ref b3)])) rfl rfl (hb hby at_56)
  refine own_go st17 ?_
  have V17 : Arv Z h17 b3 k3 .int (10 : Int32) [(.int (1 : Int32)), (.int (10 : Int32)), (.int (100 : Int32)), (.int (1000 : Int32)), (.int (10000 : Int32)), (.int (100000 : Int32)), (.int (1000000 : Int32)), (.int (0 : Int32)), (.int (0 : Int32)), (.int (0 : Int32))] (.int (0 : Int32)) := Arv.set Ar16 q16 S16 M16 H16 G16 rfl W17 6 rfl (Nat.le_of_ble_eq_true rfl)
  have N17 := Fr.snoc X17 N15 g_b3
  have K17 : Keep h0 h17 [] := K15.wr W17 (Or.inr sz_b3)
  show WP p e below _ (T17.setTop (mkF m 57 #[.val (.int p1), .val (.int p2), .val (.int p3), .val (.int p4), .val (.int vi1), .val (.int vi2), .unset, .unset, .unset, .unset, .unset, .unset] [(.ref b3)]))
  refine own_go (fun t_ k => XS.dup X17.here hx rfl (hb hby at_57) rfl rfl k) ?_
  show WP p e below _ (T17.setTop (mkF m 58 #[.val (.int p1), .val (.int p2), .val (.int p3), .val (.int p4), .val (.int vi1), .val (.int vi2), .unset, .unset, .unset, .unset, .unset, .unset] [(.ref b3), (.ref b3)]))
  refine own_go (fun t_ k => XS.bipush X17.here hx rfl (hb hby at_58) k) ?_
  show WP p e below _ (T17.setTop (mkF m 60 #[.val (.int p1), .val (.int p2), .val (.int p3), .val (.int p4), .val (.int vi1), .val (.int vi2), .unset, .unset, .unset, .unset, .unset, .unset] [(.int (7 : Int32)), (.ref b3), (.ref b3)]))
  refine own_go (fun t_ k => X17.ldcInt hx hown (mvT hZ (hw _ (List.mem_of_getElem? (i := 4) rfl))) (g := (mkF m 60 #[.val (.int p1), .val (.int p2), .val (.int p3), .val (.int p4), .val (.int vi1), .val (.int vi2), .unset, .unset, .unset, .unset, .unset, .unset] [(.int (7 : Int32)), (.ref b3), (.ref b3)])) rfl (hb hby at_60) _ k) ?_
  show WP p e below _ (T17.setTop (mkF m 62 #[.val (.int p1), .val (.int p2), .val (.int p3), .val (.int p4), .val (.int vi1), .val (.int vi2), .unset, .unset, .unset, .unset, .unset, .unset] [(.int (10000000 : Int32)), (.int (7 : Int32)), (.ref b3), (.ref b3)]))
  obtain ⟨cl18, Ar18, q18, S18, M18, H18, G18⟩ := id (V17)
  have hin18 : ¬ ((7 : Int32) < 0 ∨ cl18.slots.size ≤ ((7 : Int32)).toNatClampNeg) := inb_of S18 (⟨by decide, by decide⟩)
  obtain ⟨T19, h19, X19, e19, W19, st19⟩ := stI X17 hx hZ e17 Ar18 (j := (7 : Int32)) hin18 (g := (mkF m 62 #[.val (.int p1), .val (.int p2), .val (.int p3), .val (.int p4), .val (.int vi1), .val (.int vi2), .unset, .unset, .unset, .unset, .unset, .unset] [(.int (10000000 : Int32)), (.int (7 : Int32)), (.ref b3), (.ref b3)])) rfl rfl (hb hby at_62)
  refine own_go st19 ?_
  have V19 : Arv Z h19 b3 k3 .int (10 : Int32) [(.int (1 : Int32)), (.int (10 : Int32)), (.int (100 : Int32)), (.int (1000 : Int32)), (.int (10000 : Int32)), (.int (100000 : Int32)), (.int (1000000 : Int32)), (.int (10000000 : Int32)), (.int (0 : Int32)), (.int (0 : Int32))] (.int (0 : Int32)) := Arv.set Ar18 q18 S18 M18 H18 G18 rfl W19 7 rfl (Nat.le_of_ble_eq_true rfl)
  have N19 := Fr.snoc X19 N17 g_b3
  have K19 : Keep h0 h19 [] := K17.wr W19 (Or.inr sz_b3)
  show WP p e below _ (T19.setTop (mkF m 63 #[.val (.int p1), .val (.int p2), .val (.int p3), .val (.int p4), .val (.int vi1), .val (.int vi2), .unset, .unset, .unset, .unset, .unset, .unset] [(.ref b3)]))
  refine own_go (fun t_ k => XS.dup X19.here hx rfl (hb hby at_63) rfl rfl k) ?_
  show WP p e below _ (T19.setTop (mkF m 64 #[.val (.int p1), .val (.int p2), .val (.int p3), .val (.int p4), .val (.int vi1), .val (.int vi2), .unset, .unset, .unset, .unset, .unset, .unset] [(.ref b3), (.ref b3)]))
  refine own_go (fun t_ k => XS.bipush X19.here hx rfl (hb hby at_64) k) ?_
  show WP p e below _ (T19.setTop (mkF m 66 #[.val (.int p1), .val (.int p2), .val (.int p3), .val (.int p4), .val (.int vi1), .val (.int vi2), .unset, .unset, .unset, .unset, .unset, .unset] [(.int (8 : Int32)), (.ref b3), (.ref b3)]))
  refine own_go (fun t_ k => X19.ldcInt hx hown (mvT hZ (hw _ (List.mem_of_getElem? (i := 5) rfl))) (g := (mkF m 66 #[.val (.int p1), .val (.int p2), .val (.int p3), .val (.int p4), .val (.int vi1), .val (.int vi2), .unset, .unset, .unset, .unset, .unset, .unset] [(.int (8 : Int32)), (.ref b3), (.ref b3)])) rfl (hb hby at_66) _ k) ?_
  show WP p e below _ (T19.setTop (mkF m 68 #[.val (.int p1), .val (.int p2), .val (.int p3), .val (.int p4), .val (.int vi1), .val (.int vi2), .unset, .unset, .unset, .unset, .unset, .unset] [(.int (100000000 : Int32)), (.int (8 : Int32)), (.ref b3), (.ref b3)]))
  obtain ⟨cl20, Ar20, q20, S20, M20, H20, G20⟩ := id (V19)
  have hin20 : ¬ ((8 : Int32) < 0 ∨ cl20.slots.size ≤ ((8 : Int32)).toNatClampNeg) := inb_of S20 (⟨by decide, by decide⟩)
  obtain ⟨T21, h21, X21, e21, W21, st21⟩ := stI X19 hx hZ e19 Ar20 (j := (8 : Int32)) hin20 (g := (mkF m 68 #[.val (.int p1), .val (.int p2), .val (.int p3), .val (.int p4), .val (.int vi1), .val (.int vi2), .unset, .unset, .unset, .unset, .unset, .unset] [(.int (100000000 : Int32)), (.int (8 : Int32)), (.ref b3), (.ref b3)])) rfl rfl (hb hby at_68)
  refine own_go st21 ?_
  have V21 : Arv Z h21 b3 k3 .int (10 : Int32) [(.int (1 : Int32)), (.int (10 : Int32)), (.int (100 : Int32)), (.int (1000 : Int32)), (.int (10000 : Int32)), (.int (100000 : Int32)), (.int (1000000 : Int32)), (.int (10000000 : Int32)), (.int (100000000 : Int32)), (.int (0 : Int32))] (.int (0 : Int32)) := Arv.set Ar20 q20 S20 M20 H20 G20 rfl W21 8 rfl (Nat.le_of_ble_eq_true rfl)
  have N21 := Fr.snoc X21 N19 g_b3
  have K21 : Keep h0 h21 [] := K19.wr W21 (Or.inr sz_b3)
  show WP p e below _ (T21.setTop (mkF m 69 #[.val (.int p1), .val (.int p2), .val (.int p3), .val (.int p4), .val (.int vi1), .val (.int vi2), .unset, .unset, .unset, .unset, .unset, .unset] [(.ref b3)]))
  refine own_go (fun t_ k => XS.dup X21.here hx rfl (hb hby at_69) rfl rfl k) ?_
  show WP p e below _ (T21.setTop (mkF m 70 #[.val (.int p1), .val (.int p2), .val (.int p3), .val (.int p4), .val (.int vi1), .val (.int vi2), .unset, .unset, .unset, .unset, .unset, .unset] [(.ref b3), (.ref b3)]))
  refine own_go (fun t_ k => XS.bipush X21.here hx rfl (hb hby at_70) k) ?_
  show WP p e below _ (T21.setTop (mkF m 72 #[.val (.int p1), .val (.int p2), .val (.int p3), .val (.int p4), .val (.int vi1), .val (.int vi2), .unset, .unset, .unset, .unset, .unset, .unset] [(.int (9 : Int32)), (.ref b3), (.ref b3)]))
  refine own_go (fun t_ k => X21.ldcInt hx hown (mvT hZ (hw _ (List.mem_of_getElem? (i := 6) rfl))) (g := (mkF m 72 #[.val (.int p1), .val (.int p2), .val (.int p3), .val (.int p4), .val (.int vi1), .val (.int vi2), .unset, .unset, .unset, .unset, .unset, .unset] [(.int (9 : Int32)), (.ref b3), (.ref b3)])) rfl (hb hby at_72) _ k) ?_
  show WP p e below _ (T21.setTop (mkF m 74 #[.val (.int p1), .val (.int p2), .val (.int p3), .val (.int p4), .val (.int vi1), .val (.int vi2), .unset, .unset, .unset, .unset, .unset, .unset] [(.int (1000000000 : Int32)), (.int (9 : Int32)), (.ref b3), (.ref b3)]))
  obtain ⟨cl22, Ar22, q22, S22, M22, H22, G22⟩ := id (V21)
  have hin22 : ¬ ((9 : Int32) < 0 ∨ cl22.slots.size ≤ ((9 : Int32)).toNatClampNeg) := inb_of S22 (⟨by decide, by decide⟩)
  obtain ⟨T23, h23, X23, e23, W23, st23⟩ := stI X21 hx hZ e21 Ar22 (j := (9 : Int32)) hin22 (g := (mkF m 74 #[.val (.int p1), .val (.int p2), .val (.int p3), .val (.int p4), .val (.int vi1), .val (.int vi2), .unset, .unset, .unset, .unset, .unset, .unset] [(.int (1000000000 : Int32)), (.int (9 : Int32)), (.ref b3), (.ref b3)])) rfl rfl (hb hby at_74)
  refine own_go st23 ?_
  have V23 : Arv Z h23 b3 k3 .int (10 : Int32) [(.int (1 : Int32)), (.int (10 : Int32)), (.int (100 : Int32)), (.int (1000 : Int32)), (.int (10000 : Int32)), (.int (100000 : Int32)), (.int (1000000 : Int32)), (.int (10000000 : Int32)), (.int (100000000 : Int32)), (.int (1000000000 : Int32))] (.int (0 : Int32)) := Arv.set Ar22 q22 S22 M22 H22 G22 rfl W23 9 rfl (Nat.le_of_ble_eq_true rfl)
  have N23 := Fr.snoc X23 N21 g_b3
  have K23 : Keep h0 h23 [] := K21.wr W23 (Or.inr sz_b3)
  show WP p e below _ (T23.setTop (mkF m 75 #[.val (.int p1), .val (.int p2), .val (.int p3), .val (.int p4), .val (.int vi1), .val (.int vi2), .unset, .unset, .unset, .unset, .unset, .unset] [(.ref b3)]))
  refine own_go (fun t_ k => XS.astore X23.here hx rfl (hb hby at_75) rfl rfl (l' := #[.val (.int p1), .val (.int p2), .val (.int p3), .val (.int p4), .val (.int vi1), .val (.int vi2), .val (.ref b3), .unset, .unset, .unset, .unset, .unset]) rfl k) ?_
  show WP p e below _ (T23.setTop (mkF m 77 #[.val (.int p1), .val (.int p2), .val (.int p3), .val (.int p4), .val (.int vi1), .val (.int vi2), .val (.ref b3), .unset, .unset, .unset, .unset, .unset] []))
  refine own_go (fun t_ k => XS.iloadN X23.here hx rfl (hb hby at_77) rfl k) ?_
  show WP p e below _ (T23.setTop (mkF m 78 #[.val (.int p1), .val (.int p2), .val (.int p3), .val (.int p4), .val (.int vi1), .val (.int vi2), .val (.ref b3), .unset, .unset, .unset, .unset, .unset] [(.int p2)]))
  refine own_go (fun t_ k => X23.ldcInt hx hown (mvT hZ (hw _ (List.mem_of_getElem? (i := 0) rfl))) (g := (mkF m 78 #[.val (.int p1), .val (.int p2), .val (.int p3), .val (.int p4), .val (.int vi1), .val (.int vi2), .val (.ref b3), .unset, .unset, .unset, .unset, .unset] [(.int p2)])) rfl (hb hby at_78) _ k) ?_
  show WP p e below _ (T23.setTop (mkF m 80 #[.val (.int p1), .val (.int p2), .val (.int p3), .val (.int p4), .val (.int vi1), .val (.int vi2), .val (.ref b3), .unset, .unset, .unset, .unset, .unset] [(.int (2147483647 : Int32)), (.int p2)]))
  refine own_go (fun t_ k => XS.iand X23.here hx rfl (hb hby at_80) rfl k) ?_
  show WP p e below _ (T23.setTop (mkF m 81 #[.val (.int p1), .val (.int p2), .val (.int p3), .val (.int p4), .val (.int vi1), .val (.int vi2), .val (.ref b3), .unset, .unset, .unset, .unset, .unset] [(.int (p2 &&& (2147483647 : Int32)))]))
  refine own_go (fun t_ k => XS.istore X23.here hx rfl (hb hby at_81) rfl (l' := #[.val (.int p1), .val (.int p2), .val (.int p3), .val (.int p4), .val (.int vi1), .val (.int vi2), .val (.ref b3), .val (.int (p2 &&& (2147483647 : Int32))), .unset, .unset, .unset, .unset]) rfl k) ?_
  show WP p e below _ (T23.setTop (mkF m 83 #[.val (.int p1), .val (.int p2), .val (.int p3), .val (.int p4), .val (.int vi1), .val (.int vi2), .val (.ref b3), .val (.int (p2 &&& (2147483647 : Int32))), .unset, .unset, .unset, .unset] []))
  generalize he24 : (p2 &&& (2147483647 : Int32)) = vi24
  show WP p e below _ (T23.setTop (mkF m 83 #[.val (.int p1), .val (.int p2), .val (.int p3), .val (.int p4), .val (.int vi1), .val (.int vi2), .val (.ref b3), .val (.int vi24), .unset, .unset, .unset, .unset] []))
  refine own_go (fun t_ k => XS.iload X23.here hx rfl (hb hby at_83) rfl k) ?_
  show WP p e below _ (T23.setTop (mkF m 85 #[.val (.int p1), .val (.int p2), .val (.int p3), .val (.int p4), .val (.int vi1), .val (.int vi2), .val (.ref b3), .val (.int vi24), .unset, .unset, .unset, .unset] [(.int vi1)]))
  refine own_go (fun t_ k => XS.bipush X23.here hx rfl (hb hby at_85) k) ?_
  show WP p e below _ (T23.setTop (mkF m 87 #[.val (.int p1), .val (.int p2), .val (.int p3), .val (.int p4), .val (.int vi1), .val (.int vi2), .val (.ref b3), .val (.int vi24), .unset, .unset, .unset, .unset] [(.int (10 : Int32)), (.int vi1)]))
  have J27 : ∀ (T27 : State) (ls27 : List Loc) (X27 : Stand p l e room_1 s m #[(.int p1), (.int p2), (.int p3), (.int p4)] below meth c T27 ls27 1 10) (N27 : Fr n0 ls27) (e27 : T27.heap = h23) (z26_S0 : Int32) (hz26_S0 : z26_S0 = (if vi1 = (10 : Int32) then vi24 else (vi24 % (powL.getD vi1.toNatClampNeg 0)))), WP p e below (GG (Q0 n0) s room_1.cells room_1.slots) (T27.setTop (mkF m 103 #[.val (.int p1), .val (.int p2), .val (.int p3), .val (.int p4), .val (.int vi1), .val (.int vi2), .val (.ref b3), .val (.int vi24), .unset, .unset, .unset, .unset] [(.int z26_S0)])) := by
    intro T27 ls27 X27 N27 e27 z26_S0 hz26_S0
    show WP p e below _ (T27.setTop (mkF m 103 #[.val (.int p1), .val (.int p2), .val (.int p3), .val (.int p4), .val (.int vi1), .val (.int vi2), .val (.ref b3), .val (.int vi24), .unset, .unset, .unset, .unset] [(.int z26_S0)]))
    refine own_go (fun t_ k => XS.istore X27.here hx rfl (hb hby at_103) rfl (l' := #[.val (.int p1), .val (.int p2), .val (.int p3), .val (.int p4), .val (.int vi1), .val (.int vi2), .val (.ref b3), .val (.int vi24), .val (.int z26_S0), .unset, .unset, .unset]) rfl k) ?_
    show WP p e below _ (T27.setTop (mkF m 105 #[.val (.int p1), .val (.int p2), .val (.int p3), .val (.int p4), .val (.int vi1), .val (.int vi2), .val (.ref b3), .val (.int vi24), .val (.int z26_S0), .unset, .unset, .unset] []))
    refine own_go (fun t_ k => XS.iloadN X27.here hx rfl (hb hby at_105) rfl k) ?_
    show WP p e below _ (T27.setTop (mkF m 106 #[.val (.int p1), .val (.int p2), .val (.int p3), .val (.int p4), .val (.int vi1), .val (.int vi2), .val (.ref b3), .val (.int vi24), .val (.int z26_S0), .unset, .unset, .unset] [(.int p4)]))
    refine own_go (fun t_ k => XS.i2b X27.here hx rfl (hb hby at_106) rfl k) ?_
    show WP p e below _ (T27.setTop (mkF m 107 #[.val (.int p1), .val (.int p2), .val (.int p3), .val (.int p4), .val (.int vi1), .val (.int vi2), .val (.ref b3), .val (.int vi24), .val (.int z26_S0), .unset, .unset, .unset] [(.int (p4.toInt8.toInt32))]))
    refine own_go (fun t_ k => XS.istore X27.here hx rfl (hb hby at_107) rfl (l' := #[.val (.int p1), .val (.int p2), .val (.int p3), .val (.int p4), .val (.int vi1), .val (.int vi2), .val (.ref b3), .val (.int vi24), .val (.int z26_S0), .val (.int (p4.toInt8.toInt32)), .unset, .unset]) rfl k) ?_
    show WP p e below _ (T27.setTop (mkF m 109 #[.val (.int p1), .val (.int p2), .val (.int p3), .val (.int p4), .val (.int vi1), .val (.int vi2), .val (.ref b3), .val (.int vi24), .val (.int z26_S0), .val (.int (p4.toInt8.toInt32)), .unset, .unset] []))
    generalize he28 : (p4.toInt8.toInt32) = vi28
    show WP p e below _ (T27.setTop (mkF m 109 #[.val (.int p1), .val (.int p2), .val (.int p3), .val (.int p4), .val (.int vi1), .val (.int vi2), .val (.ref b3), .val (.int vi24), .val (.int z26_S0), .val (.int vi28), .unset, .unset] []))
    refine own_go (fun t_ k => XS.bipush X27.here hx rfl (hb hby at_109) k) ?_
    show WP p e below _ (T27.setTop (mkF m 111 #[.val (.int p1), .val (.int p2), .val (.int p3), .val (.int p4), .val (.int vi1), .val (.int vi2), .val (.ref b3), .val (.int vi24), .val (.int z26_S0), .val (.int vi28), .unset, .unset] [(.int (16 : Int32))]))
    obtain ⟨T29, h29, k29, X29, e29, E29, A29, st29⟩ := newP X27 hx hZ (hw _ (List.mem_of_getElem? (i := 7) rfl)) e27 (g := (mkF m 111 #[.val (.int p1), .val (.int p2), .val (.int p3), .val (.int p4), .val (.int vi1), .val (.int vi2), .val (.ref b3), .val (.int vi24), .val (.int z26_S0), .val (.int vi28), .unset, .unset] [(.int (16 : Int32))])) rfl (hb hby at_111) rfl (by decide) (cap := 16) (by decide) (by decide) (by decide) (by decide)
    obtain ⟨b29, g29⟩ : ∃ z, z = Array.size h23 := ⟨_, rfl⟩
    rw [← g29] at A29 st29
    refine own_go st29 ?_
    have g_b29 : n0 ≤ b29 := Nat.le_trans (Nat.le_trans Z0 K23.1) (Nat.le_of_eq g29.symm)
    have sz_b29 : h0.size ≤ b29 := Nat.le_trans K23.1 (Nat.le_of_eq g29.symm)
    have ne_tt_b29 : tt ≠ b29 := Nat.ne_of_lt (Nat.lt_of_lt_of_le (((((((((((V_t.ext E3).other W5 ne_tt_b3).other W7 ne_tt_b3).other W9 ne_tt_b3).other W11 ne_tt_b3).other W13 ne_tt_b3).other W15 ne_tt_b3).other W17 ne_tt_b3).other W19 ne_tt_b3).other W21 ne_tt_b3).other W23 ne_tt_b3).lt (Nat.le_of_eq g29.symm))
    have ne_to_b29 : to ≠ b29 := Nat.ne_of_lt (Nat.lt_of_lt_of_le (((((((((((V_o.ext E3).other W5 ne_to_b3).other W7 ne_to_b3).other W9 ne_to_b3).other W11 ne_to_b3).other W13 ne_to_b3).other W15 ne_to_b3).other W17 ne_to_b3).other W19 ne_to_b3).other W21 ne_to_b3).other W23 ne_to_b3).lt (Nat.le_of_eq g29.symm))
    have ne_b3_b29 : b3 ≠ b29 := Nat.ne_of_lt (Nat.lt_of_lt_of_le V23.lt (Nat.le_of_eq g29.symm))
    have K29 : Keep h0 h29 [] := K23.ext E29
    have V29 : Arv Z h29 b29 k29 .byte (16 : Int32) [(.int (0 : Int32)), (.int (0 : Int32)), (.int (0 : Int32)), (.int (0 : Int32)), (.int (0 : Int32)), (.int (0 : Int32)), (.int (0 : Int32)), (.int (0 : Int32)), (.int (0 : Int32)), (.int (0 : Int32)), (.int (0 : Int32)), (.int (0 : Int32)), (.int (0 : Int32)), (.int (0 : Int32)), (.int (0 : Int32)), (.int (0 : Int32))] (.int (0 : Int32)) := (Arv.new A29 (by decide)).pad (pad_rep [] (.int (0 : Int32)) 16)
    show WP p e below _ (T29.setTop (mkF m 113 #[.val (.int p1), .val (.int p2), .val (.int p3), .val (.int p4), .val (.int vi1), .val (.int vi2), .val (.ref b3), .val (.int vi24), .val (.int z26_S0), .val (.int vi28), .unset, .unset] [(.ref b29)]))
    refine own_go (fun t_ k => XS.dup X29.here hx rfl (hb hby at_113) rfl rfl k) ?_
    show WP p e below _ (T29.setTop (mkF m 114 #[.val (.int p1), .val (.int p2), .val (.int p3), .val (.int p4), .val (.int vi1), .val (.int vi2), .val (.ref b3), .val (.int vi24), .val (.int z26_S0), .val (.int vi28), .unset, .unset] [(.ref b29), (.ref b29)]))
    refine own_go (fun t_ k => XS.iconst X29.here hx rfl (hb hby at_114) k) ?_
    show WP p e below _ (T29.setTop (mkF m 115 #[.val (.int p1), .val (.int p2), .val (.int p3), .val (.int p4), .val (.int vi1), .val (.int vi2), .val (.ref b3), .val (.int vi24), .val (.int z26_S0), .val (.int vi28), .unset, .unset] [(.int (0 : Int32)), (.ref b29), (.ref b29)]))
    refine own_go (fun t_ k => XS.iload X29.here hx rfl (hb hby at_115) rfl k) ?_
    show WP p e below _ (T29.setTop (mkF m 117 #[.val (.int p1), .val (.int p2), .val (.int p3), .val (.int p4), .val (.int vi1), .val (.int vi2), .val (.ref b3), .val (.int vi24), .val (.int z26_S0), .val (.int vi28), .unset, .unset] [(.int vi28), (.int (0 : Int32)), (.ref b29), (.ref b29)]))
    obtain ⟨cl30, Ar30, q30, S30, M30, H30, G30⟩ := id (V29)
    have hin30 : ¬ ((0 : Int32) < 0 ∨ cl30.slots.size ≤ ((0 : Int32)).toNatClampNeg) := inb_of S30 (⟨by decide, by decide⟩)
    obtain ⟨T31, h31, X31, e31, W31, st31⟩ := stB X29 hx hZ e29 Ar30 (j := (0 : Int32)) hin30 (g := (mkF m 117 #[.val (.int p1), .val (.int p2), .val (.int p3), .val (.int p4), .val (.int vi1), .val (.int vi2), .val (.ref b3), .val (.int vi24), .val (.int z26_S0), .val (.int vi28), .unset, .unset] [(.int vi28), (.int (0 : Int32)), (.ref b29), (.ref b29)])) rfl rfl (hb hby at_117)
    refine own_go st31 ?_
    have V31 : Arv Z h31 b29 k29 .byte (16 : Int32) [(.int (vi28.toInt8.toInt32)), (.int (0 : Int32)), (.int (0 : Int32)), (.int (0 : Int32)), (.int (0 : Int32)), (.int (0 : Int32)), (.int (0 : Int32)), (.int (0 : Int32)), (.int (0 : Int32)), (.int (0 : Int32)), (.int (0 : Int32)), (.int (0 : Int32)), (.int (0 : Int32)), (.int (0 : Int32)), (.int (0 : Int32)), (.int (0 : Int32))] (.int (0 : Int32)) := Arv.set Ar30 q30 S30 M30 H30 G30 (fits_nar_byte _) W31 0 rfl (Nat.le_of_ble_eq_true rfl)
    have N31 := Fr.snoc X31 N27 g_b29
    have K31 : Keep h0 h31 [] := K29.wr W31 (Or.inr sz_b29)
    show WP p e below _ (T31.setTop (mkF m 118 #[.val (.int p1), .val (.int p2), .val (.int p3), .val (.int p4), .val (.int vi1), .val (.int vi2), .val (.ref b3), .val (.int vi24), .val (.int z26_S0), .val (.int vi28), .unset, .unset] [(.ref b29)]))
    refine own_go (fun t_ k => XS.dup X31.here hx rfl (hb hby at_118) rfl rfl k) ?_
    show WP p e below _ (T31.setTop (mkF m 119 #[.val (.int p1), .val (.int p2), .val (.int p3), .val (.int p4), .val (.int vi1), .val (.int vi2), .val (.ref b3), .val (.int vi24), .val (.int z26_S0), .val (.int vi28), .unset, .unset] [(.ref b29), (.ref b29)]))
    refine own_go (fun t_ k => XS.iconst X31.here hx rfl (hb hby at_119) k) ?_
    show WP p e below _ (T31.setTop (mkF m 120 #[.val (.int p1), .val (.int p2), .val (.int p3), .val (.int p4), .val (.int vi1), .val (.int vi2), .val (.ref b3), .val (.int vi24), .val (.int z26_S0), .val (.int vi28), .unset, .unset] [(.int (1 : Int32)), (.ref b29), (.ref b29)]))
    refine own_go (fun t_ k => XS.iload X31.here hx rfl (hb hby at_120) rfl k) ?_
    show WP p e below _ (T31.setTop (mkF m 122 #[.val (.int p1), .val (.int p2), .val (.int p3), .val (.int p4), .val (.int vi1), .val (.int vi2), .val (.ref b3), .val (.int vi24), .val (.int z26_S0), .val (.int vi28), .unset, .unset] [(.int vi28), (.int (1 : Int32)), (.ref b29), (.ref b29)]))
    obtain ⟨cl32, Ar32, q32, S32, M32, H32, G32⟩ := id (V31)
    have hin32 : ¬ ((1 : Int32) < 0 ∨ cl32.slots.size ≤ ((1 : Int32)).toNatClampNeg) := inb_of S32 (⟨by decide, by decide⟩)
    obtain ⟨T33, h33, X33, e33, W33, st33⟩ := stB X31 hx hZ e31 Ar32 (j := (1 : Int32)) hin32 (g := (mkF m 122 #[.val (.int p1), .val (.int p2), .val (.int p3), .val (.int p4), .val (.int vi1), .val (.int vi2), .val (.ref b3), .val (.int vi24), .val (.int z26_S0), .val (.int vi28), .unset, .unset] [(.int vi28), (.int (1 : Int32)), (.ref b29), (.ref b29)])) rfl rfl (hb hby at_122)
    refine own_go st33 ?_
    have V33 : Arv Z h33 b29 k29 .byte (16 : Int32) [(.int (vi28.toInt8.toInt32)), (.int (vi28.toInt8.toInt32)), (.int (0 : Int32)), (.int (0 : Int32)), (.int (0 : Int32)), (.int (0 : Int32)), (.int (0 : Int32)), (.int (0 : Int32)), (.int (0 : Int32)), (.int (0 : Int32)), (.int (0 : Int32)), (.int (0 : Int32)), (.int (0 : Int32)), (.int (0 : Int32)), (.int (0 : Int32)), (.int (0 : Int32))] (.int (0 : Int32)) := Arv.set Ar32 q32 S32 M32 H32 G32 (fits_nar_byte _) W33 1 rfl (Nat.le_of_ble_eq_true rfl)
    have N33 := Fr.snoc X33 N31 g_b29
    have K33 : Keep h0 h33 [] := K31.wr W33 (Or.inr sz_b29)
    show WP p e below _ (T33.setTop (mkF m 123 #[.val (.int p1), .val (.int p2), .val (.int p3), .val (.int p4), .val (.int vi1), .val (.int vi2), .val (.ref b3), .val (.int vi24), .val (.int z26_S0), .val (.int vi28), .unset, .unset] [(.ref b29)]))
    refine own_go (fun t_ k => XS.dup X33.here hx rfl (hb hby at_123) rfl rfl k) ?_
    show WP p e below _ (T33.setTop (mkF m 124 #[.val (.int p1), .val (.int p2), .val (.int p3), .val (.int p4), .val (.int vi1), .val (.int vi2), .val (.ref b3), .val (.int vi24), .val (.int z26_S0), .val (.int vi28), .unset, .unset] [(.ref b29), (.ref b29)]))
    refine own_go (fun t_ k => XS.iconst X33.here hx rfl (hb hby at_124) k) ?_
    show WP p e below _ (T33.setTop (mkF m 125 #[.val (.int p1), .val (.int p2), .val (.int p3), .val (.int p4), .val (.int vi1), .val (.int vi2), .val (.ref b3), .val (.int vi24), .val (.int z26_S0), .val (.int vi28), .unset, .unset] [(.int (2 : Int32)), (.ref b29), (.ref b29)]))
    refine own_go (fun t_ k => XS.iload X33.here hx rfl (hb hby at_125) rfl k) ?_
    show WP p e below _ (T33.setTop (mkF m 127 #[.val (.int p1), .val (.int p2), .val (.int p3), .val (.int p4), .val (.int vi1), .val (.int vi2), .val (.ref b3), .val (.int vi24), .val (.int z26_S0), .val (.int vi28), .unset, .unset] [(.int vi28), (.int (2 : Int32)), (.ref b29), (.ref b29)]))
    obtain ⟨cl34, Ar34, q34, S34, M34, H34, G34⟩ := id (V33)
    have hin34 : ¬ ((2 : Int32) < 0 ∨ cl34.slots.size ≤ ((2 : Int32)).toNatClampNeg) := inb_of S34 (⟨by decide, by decide⟩)
    obtain ⟨T35, h35, X35, e35, W35, st35⟩ := stB X33 hx hZ e33 Ar34 (j := (2 : Int32)) hin34 (g := (mkF m 127 #[.val (.int p1), .val (.int p2), .val (.int p3), .val (.int p4), .val (.int vi1), .val (.int vi2), .val (.ref b3), .val (.int vi24), .val (.int z26_S0), .val (.int vi28), .unset, .unset] [(.int vi28), (.int (2 : Int32)), (.ref b29), (.ref b29)])) rfl rfl (hb hby at_127)
    refine own_go st35 ?_
    have V35 : Arv Z h35 b29 k29 .byte (16 : Int32) [(.int (vi28.toInt8.toInt32)), (.int (vi28.toInt8.toInt32)), (.int (vi28.toInt8.toInt32)), (.int (0 : Int32)), (.int (0 : Int32)), (.int (0 : Int32)), (.int (0 : Int32)), (.int (0 : Int32)), (.int (0 : Int32)), (.int (0 : Int32)), (.int (0 : Int32)), (.int (0 : Int32)), (.int (0 : Int32)), (.int (0 : Int32)), (.int (0 : Int32)), (.int (0 : Int32))] (.int (0 : Int32)) := Arv.set Ar34 q34 S34 M34 H34 G34 (fits_nar_byte _) W35 2 rfl (Nat.le_of_ble_eq_true rfl)
    have N35 := Fr.snoc X35 N33 g_b29
    have K35 : Keep h0 h35 [] := K33.wr W35 (Or.inr sz_b29)
    show WP p e below _ (T35.setTop (mkF m 128 #[.val (.int p1), .val (.int p2), .val (.int p3), .val (.int p4), .val (.int vi1), .val (.int vi2), .val (.ref b3), .val (.int vi24), .val (.int z26_S0), .val (.int vi28), .unset, .unset] [(.ref b29)]))
    refine own_go (fun t_ k => XS.dup X35.here hx rfl (hb hby at_128) rfl rfl k) ?_
    show WP p e below _ (T35.setTop (mkF m 129 #[.val (.int p1), .val (.int p2), .val (.int p3), .val (.int p4), .val (.int vi1), .val (.int vi2), .val (.ref b3), .val (.int vi24), .val (.int z26_S0), .val (.int vi28), .unset, .unset] [(.ref b29), (.ref b29)]))
    refine own_go (fun t_ k => XS.iconst X35.here hx rfl (hb hby at_129) k) ?_
    show WP p e below _ (T35.setTop (mkF m 130 #[.val (.int p1), .val (.int p2), .val (.int p3), .val (.int p4), .val (.int vi1), .val (.int vi2), .val (.ref b3), .val (.int vi24), .val (.int z26_S0), .val (.int vi28), .unset, .unset] [(.int (3 : Int32)), (.ref b29), (.ref b29)]))
    refine own_go (fun t_ k => XS.iload X35.here hx rfl (hb hby at_130) rfl k) ?_
    show WP p e below _ (T35.setTop (mkF m 132 #[.val (.int p1), .val (.int p2), .val (.int p3), .val (.int p4), .val (.int vi1), .val (.int vi2), .val (.ref b3), .val (.int vi24), .val (.int z26_S0), .val (.int vi28), .unset, .unset] [(.int vi28), (.int (3 : Int32)), (.ref b29), (.ref b29)]))
    obtain ⟨cl36, Ar36, q36, S36, M36, H36, G36⟩ := id (V35)
    have hin36 : ¬ ((3 : Int32) < 0 ∨ cl36.slots.size ≤ ((3 : Int32)).toNatClampNeg) := inb_of S36 (⟨by decide, by decide⟩)
    obtain ⟨T37, h37, X37, e37, W37, st37⟩ := stB X35 hx hZ e35 Ar36 (j := (3 : Int32)) hin36 (g := (mkF m 132 #[.val (.int p1), .val (.int p2), .val (.int p3), .val (.int p4), .val (.int vi1), .val (.int vi2), .val (.ref b3), .val (.int vi24), .val (.int z26_S0), .val (.int vi28), .unset, .unset] [(.int vi28), (.int (3 : Int32)), (.ref b29), (.ref b29)])) rfl rfl (hb hby at_132)
    refine own_go st37 ?_
    have V37 : Arv Z h37 b29 k29 .byte (16 : Int32) [(.int (vi28.toInt8.toInt32)), (.int (vi28.toInt8.toInt32)), (.int (vi28.toInt8.toInt32)), (.int (vi28.toInt8.toInt32)), (.int (0 : Int32)), (.int (0 : Int32)), (.int (0 : Int32)), (.int (0 : Int32)), (.int (0 : Int32)), (.int (0 : Int32)), (.int (0 : Int32)), (.int (0 : Int32)), (.int (0 : Int32)), (.int (0 : Int32)), (.int (0 : Int32)), (.int (0 : Int32))] (.int (0 : Int32)) := Arv.set Ar36 q36 S36 M36 H36 G36 (fits_nar_byte _) W37 3 rfl (Nat.le_of_ble_eq_true rfl)
    have N37 := Fr.snoc X37 N35 g_b29
    have K37 : Keep h0 h37 [] := K35.wr W37 (Or.inr sz_b29)
    show WP p e below _ (T37.setTop (mkF m 133 #[.val (.int p1), .val (.int p2), .val (.int p3), .val (.int p4), .val (.int vi1), .val (.int vi2), .val (.ref b3), .val (.int vi24), .val (.int z26_S0), .val (.int vi28), .unset, .unset] [(.ref b29)]))
    refine own_go (fun t_ k => XS.dup X37.here hx rfl (hb hby at_133) rfl rfl k) ?_
    show WP p e below _ (T37.setTop (mkF m 134 #[.val (.int p1), .val (.int p2), .val (.int p3), .val (.int p4), .val (.int vi1), .val (.int vi2), .val (.ref b3), .val (.int vi24), .val (.int z26_S0), .val (.int vi28), .unset, .unset] [(.ref b29), (.ref b29)]))
    refine own_go (fun t_ k => XS.iconst X37.here hx rfl (hb hby at_134) k) ?_
    show WP p e below _ (T37.setTop (mkF m 135 #[.val (.int p1), .val (.int p2), .val (.int p3), .val (.int p4), .val (.int vi1), .val (.int vi2), .val (.ref b3), .val (.int vi24), .val (.int z26_S0), .val (.int vi28), .unset, .unset] [(.int (4 : Int32)), (.ref b29), (.ref b29)]))
    refine own_go (fun t_ k => XS.iload X37.here hx rfl (hb hby at_135) rfl k) ?_
    show WP p e below _ (T37.setTop (mkF m 137 #[.val (.int p1), .val (.int p2), .val (.int p3), .val (.int p4), .val (.int vi1), .val (.int vi2), .val (.ref b3), .val (.int vi24), .val (.int z26_S0), .val (.int vi28), .unset, .unset] [(.int vi28), (.int (4 : Int32)), (.ref b29), (.ref b29)]))
    obtain ⟨cl38, Ar38, q38, S38, M38, H38, G38⟩ := id (V37)
    have hin38 : ¬ ((4 : Int32) < 0 ∨ cl38.slots.size ≤ ((4 : Int32)).toNatClampNeg) := inb_of S38 (⟨by decide, by decide⟩)
    obtain ⟨T39, h39, X39, e39, W39, st39⟩ := stB X37 hx hZ e37 Ar38 (j := (4 : Int32)) hin38 (g := (mkF m 137 #[.val (.int p1), .val (.int p2), .val (.int p3), .val (.int p4), .val (.int vi1), .val (.int vi2), .val (.ref b3), .val (.int vi24), .val (.int z26_S0), .val (.int vi28), .unset, .unset] [(.int vi28), (.int (4 : Int32)), (.ref b29), (.ref b29)])) rfl rfl (hb hby at_137)
    refine own_go st39 ?_
    have V39 : Arv Z h39 b29 k29 .byte (16 : Int32) [(.int (vi28.toInt8.toInt32)), (.int (vi28.toInt8.toInt32)), (.int (vi28.toInt8.toInt32)), (.int (vi28.toInt8.toInt32)), (.int (vi28.toInt8.toInt32)), (.int (0 : Int32)), (.int (0 : Int32)), (.int (0 : Int32)), (.int (0 : Int32)), (.int (0 : Int32)), (.int (0 : Int32)), (.int (0 : Int32)), (.int (0 : Int32)), (.int (0 : Int32)), (.int (0 : Int32)), (.int (0 : Int32))] (.int (0 : Int32)) := Arv.set Ar38 q38 S38 M38 H38 G38 (fits_nar_byte _) W39 4 rfl (Nat.le_of_ble_eq_true rfl)
    have N39 := Fr.snoc X39 N37 g_b29
    have K39 : Keep h0 h39 [] := K37.wr W39 (Or.inr sz_b29)
    show WP p e below _ (T39.setTop (mkF m 138 #[.val (.int p1), .val (.int p2), .val (.int p3), .val (.int p4), .val (.int vi1), .val (.int vi2), .val (.ref b3), .val (.int vi24), .val (.int z26_S0), .val (.int vi28), .unset, .unset] [(.ref b29)]))
    refine own_go (fun t_ k => XS.dup X39.here hx rfl (hb hby at_138) rfl rfl k) ?_
    show WP p e below _ (T39.setTop (mkF m 139 #[.val (.int p1), .val (.int p2), .val (.int p3), .val (.int p4), .val (.int vi1), .val (.int vi2), .val (.ref b3), .val (.int vi24), .val (.int z26_S0), .val (.int vi28), .unset, .unset] [(.ref b29), (.ref b29)]))
    refine own_go (fun t_ k => XS.iconst X39.here hx rfl (hb hby at_139) k) ?_
    show WP p e below _ (T39.setTop (mkF m 140 #[.val (.int p1), .val (.int p2), .val (.int p3), .val (.int p4), .val (.int vi1), .val (.int vi2), .val (.ref b3), .val (.int vi24), .val (.int z26_S0), .val (.int vi28), .unset, .unset] [(.int (5 : Int32)), (.ref b29), (.ref b29)]))
    refine own_go (fun t_ k => XS.iload X39.here hx rfl (hb hby at_140) rfl k) ?_
    show WP p e below _ (T39.setTop (mkF m 142 #[.val (.int p1), .val (.int p2), .val (.int p3), .val (.int p4), .val (.int vi1), .val (.int vi2), .val (.ref b3), .val (.int vi24), .val (.int z26_S0), .val (.int vi28), .unset, .unset] [(.int vi28), (.int (5 : Int32)), (.ref b29), (.ref b29)]))
    obtain ⟨cl40, Ar40, q40, S40, M40, H40, G40⟩ := id (V39)
    have hin40 : ¬ ((5 : Int32) < 0 ∨ cl40.slots.size ≤ ((5 : Int32)).toNatClampNeg) := inb_of S40 (⟨by decide, by decide⟩)
    obtain ⟨T41, h41, X41, e41, W41, st41⟩ := stB X39 hx hZ e39 Ar40 (j := (5 : Int32)) hin40 (g := (mkF m 142 #[.val (.int p1), .val (.int p2), .val (.int p3), .val (.int p4), .val (.int vi1), .val (.int vi2), .val (.ref b3), .val (.int vi24), .val (.int z26_S0), .val (.int vi28), .unset, .unset] [(.int vi28), (.int (5 : Int32)), (.ref b29), (.ref b29)])) rfl rfl (hb hby at_142)
    refine own_go st41 ?_
    have V41 : Arv Z h41 b29 k29 .byte (16 : Int32) [(.int (vi28.toInt8.toInt32)), (.int (vi28.toInt8.toInt32)), (.int (vi28.toInt8.toInt32)), (.int (vi28.toInt8.toInt32)), (.int (vi28.toInt8.toInt32)), (.int (vi28.toInt8.toInt32)), (.int (0 : Int32)), (.int (0 : Int32)), (.int (0 : Int32)), (.int (0 : Int32)), (.int (0 : Int32)), (.int (0 : Int32)), (.int (0 : Int32)), (.int (0 : Int32)), (.int (0 : Int32)), (.int (0 : Int32))] (.int (0 : Int32)) := Arv.set Ar40 q40 S40 M40 H40 G40 (fits_nar_byte _) W41 5 rfl (Nat.le_of_ble_eq_true rfl)
    have N41 := Fr.snoc X41 N39 g_b29
    have K41 : Keep h0 h41 [] := K39.wr W41 (Or.inr sz_b29)
    show WP p e below _ (T41.setTop (mkF m 143 #[.val (.int p1), .val (.int p2), .val (.int p3), .val (.int p4), .val (.int vi1), .val (.int vi2), .val (.ref b3), .val (.int vi24), .val (.int z26_S0), .val (.int vi28), .unset, .unset] [(.ref b29)]))
    refine own_go (fun t_ k => XS.dup X41.here hx rfl (hb hby at_143) rfl rfl k) ?_
    show WP p e below _ (T41.setTop (mkF m 144 #[.val (.int p1), .val (.int p2), .val (.int p3), .val (.int p4), .val (.int vi1), .val (.int vi2), .val (.ref b3), .val (.int vi24), .val (.int z26_S0), .val (.int vi28), .unset, .unset] [(.ref b29), (.ref b29)]))
    refine own_go (fun t_ k => XS.bipush X41.here hx rfl (hb hby at_144) k) ?_
    show WP p e below _ (T41.setTop (mkF m 146 #[.val (.int p1), .val (.int p2), .val (.int p3), .val (.int p4), .val (.int vi1), .val (.int vi2), .val (.ref b3), .val (.int vi24), .val (.int z26_S0), .val (.int vi28), .unset, .unset] [(.int (6 : Int32)), (.ref b29), (.ref b29)]))
    refine own_go (fun t_ k => XS.iload X41.here hx rfl (hb hby at_146) rfl k) ?_
    show WP p e below _ (T41.setTop (mkF m 148 #[.val (.int p1), .val (.int p2), .val (.int p3), .val (.int p4), .val (.int vi1), .val (.int vi2), .val (.ref b3), .val (.int vi24), .val (.int z26_S0), .val (.int vi28), .unset, .unset] [(.int vi28), (.int (6 : Int32)), (.ref b29), (.ref b29)]))
    obtain ⟨cl42, Ar42, q42, S42, M42, H42, G42⟩ := id (V41)
    have hin42 : ¬ ((6 : Int32) < 0 ∨ cl42.slots.size ≤ ((6 : Int32)).toNatClampNeg) := inb_of S42 (⟨by decide, by decide⟩)
    obtain ⟨T43, h43, X43, e43, W43, st43⟩ := stB X41 hx hZ e41 Ar42 (j := (6 : Int32)) hin42 (g := (mkF m 148 #[.val (.int p1), .val (.int p2), .val (.int p3), .val (.int p4), .val (.int vi1), .val (.int vi2), .val (.ref b3), .val (.int vi24), .val (.int z26_S0), .val (.int vi28), .unset, .unset] [(.int vi28), (.int (6 : Int32)), (.ref b29), (.ref b29)])) rfl rfl (hb hby at_148)
    refine own_go st43 ?_
    have V43 : Arv Z h43 b29 k29 .byte (16 : Int32) [(.int (vi28.toInt8.toInt32)), (.int (vi28.toInt8.toInt32)), (.int (vi28.toInt8.toInt32)), (.int (vi28.toInt8.toInt32)), (.int (vi28.toInt8.toInt32)), (.int (vi28.toInt8.toInt32)), (.int (vi28.toInt8.toInt32)), (.int (0 : Int32)), (.int (0 : Int32)), (.int (0 : Int32)), (.int (0 : Int32)), (.int (0 : Int32)), (.int (0 : Int32)), (.int (0 : Int32)), (.int (0 : Int32)), (.int (0 : Int32))] (.int (0 : Int32)) := Arv.set Ar42 q42 S42 M42 H42 G42 (fits_nar_byte _) W43 6 rfl (Nat.le_of_ble_eq_true rfl)
    have N43 := Fr.snoc X43 N41 g_b29
    have K43 : Keep h0 h43 [] := K41.wr W43 (Or.inr sz_b29)
    show WP p e below _ (T43.setTop (mkF m 149 #[.val (.int p1), .val (.int p2), .val (.int p3), .val (.int p4), .val (.int vi1), .val (.int vi2), .val (.ref b3), .val (.int vi24), .val (.int z26_S0), .val (.int vi28), .unset, .unset] [(.ref b29)]))
    refine own_go (fun t_ k => XS.dup X43.here hx rfl (hb hby at_149) rfl rfl k) ?_
    show WP p e below _ (T43.setTop (mkF m 150 #[.val (.int p1), .val (.int p2), .val (.int p3), .val (.int p4), .val (.int vi1), .val (.int vi2), .val (.ref b3), .val (.int vi24), .val (.int z26_S0), .val (.int vi28), .unset, .unset] [(.ref b29), (.ref b29)]))
    refine own_go (fun t_ k => XS.bipush X43.here hx rfl (hb hby at_150) k) ?_
    show WP p e below _ (T43.setTop (mkF m 152 #[.val (.int p1), .val (.int p2), .val (.int p3), .val (.int p4), .val (.int vi1), .val (.int vi2), .val (.ref b3), .val (.int vi24), .val (.int z26_S0), .val (.int vi28), .unset, .unset] [(.int (7 : Int32)), (.ref b29), (.ref b29)]))
    refine own_go (fun t_ k => XS.iload X43.here hx rfl (hb hby at_152) rfl k) ?_
    show WP p e below _ (T43.setTop (mkF m 154 #[.val (.int p1), .val (.int p2), .val (.int p3), .val (.int p4), .val (.int vi1), .val (.int vi2), .val (.ref b3), .val (.int vi24), .val (.int z26_S0), .val (.int vi28), .unset, .unset] [(.int vi28), (.int (7 : Int32)), (.ref b29), (.ref b29)]))
    obtain ⟨cl44, Ar44, q44, S44, M44, H44, G44⟩ := id (V43)
    have hin44 : ¬ ((7 : Int32) < 0 ∨ cl44.slots.size ≤ ((7 : Int32)).toNatClampNeg) := inb_of S44 (⟨by decide, by decide⟩)
    obtain ⟨T45, h45, X45, e45, W45, st45⟩ := stB X43 hx hZ e43 Ar44 (j := (7 : Int32)) hin44 (g := (mkF m 154 #[.val (.int p1), .val (.int p2), .val (.int p3), .val (.int p4), .val (.int vi1), .val (.int vi2), .val (.ref b3), .val (.int vi24), .val (.int z26_S0), .val (.int vi28), .unset, .unset] [(.int vi28), (.int (7 : Int32)), (.ref b29), (.ref b29)])) rfl rfl (hb hby at_154)
    refine own_go st45 ?_
    have V45 : Arv Z h45 b29 k29 .byte (16 : Int32) [(.int (vi28.toInt8.toInt32)), (.int (vi28.toInt8.toInt32)), (.int (vi28.toInt8.toInt32)), (.int (vi28.toInt8.toInt32)), (.int (vi28.toInt8.toInt32)), (.int (vi28.toInt8.toInt32)), (.int (vi28.toInt8.toInt32)), (.int (vi28.toInt8.toInt32)), (.int (0 : Int32)), (.int (0 : Int32)), (.int (0 : Int32)), (.int (0 : Int32)), (.int (0 : Int32)), (.int (0 : Int32)), (.int (0 : Int32)), (.int (0 : Int32))] (.int (0 : Int32)) := Arv.set Ar44 q44 S44 M44 H44 G44 (fits_nar_byte _) W45 7 rfl (Nat.le_of_ble_eq_true rfl)
    have N45 := Fr.snoc X45 N43 g_b29
    have K45 : Keep h0 h45 [] := K43.wr W45 (Or.inr sz_b29)
    show WP p e below _ (T45.setTop (mkF m 155 #[.val (.int p1), .val (.int p2), .val (.int p3), .val (.int p4), .val (.int vi1), .val (.int vi2), .val (.ref b3), .val (.int vi24), .val (.int z26_S0), .val (.int vi28), .unset, .unset] [(.ref b29)]))
    refine own_go (fun t_ k => XS.dup X45.here hx rfl (hb hby at_155) rfl rfl k) ?_
    show WP p e below _ (T45.setTop (mkF m 156 #[.val (.int p1), .val (.int p2), .val (.int p3), .val (.int p4), .val (.int vi1), .val (.int vi2), .val (.ref b3), .val (.int vi24), .val (.int z26_S0), .val (.int vi28), .unset, .unset] [(.ref b29), (.ref b29)]))
    refine own_go (fun t_ k => XS.bipush X45.here hx rfl (hb hby at_156) k) ?_
    show WP p e below _ (T45.setTop (mkF m 158 #[.val (.int p1), .val (.int p2), .val (.int p3), .val (.int p4), .val (.int vi1), .val (.int vi2), .val (.ref b3), .val (.int vi24), .val (.int z26_S0), .val (.int vi28), .unset, .unset] [(.int (8 : Int32)), (.ref b29), (.ref b29)]))
    refine own_go (fun t_ k => XS.iload X45.here hx rfl (hb hby at_158) rfl k) ?_
    show WP p e below _ (T45.setTop (mkF m 160 #[.val (.int p1), .val (.int p2), .val (.int p3), .val (.int p4), .val (.int vi1), .val (.int vi2), .val (.ref b3), .val (.int vi24), .val (.int z26_S0), .val (.int vi28), .unset, .unset] [(.int vi28), (.int (8 : Int32)), (.ref b29), (.ref b29)]))
    obtain ⟨cl46, Ar46, q46, S46, M46, H46, G46⟩ := id (V45)
    have hin46 : ¬ ((8 : Int32) < 0 ∨ cl46.slots.size ≤ ((8 : Int32)).toNatClampNeg) := inb_of S46 (⟨by decide, by decide⟩)
    obtain ⟨T47, h47, X47, e47, W47, st47⟩ := stB X45 hx hZ e45 Ar46 (j := (8 : Int32)) hin46 (g := (mkF m 160 #[.val (.int p1), .val (.int p2), .val (.int p3), .val (.int p4), .val (.int vi1), .val (.int vi2), .val (.ref b3), .val (.int vi24), .val (.int z26_S0), .val (.int vi28), .unset, .unset] [(.int vi28), (.int (8 : Int32)), (.ref b29), (.ref b29)])) rfl rfl (hb hby at_160)
    refine own_go st47 ?_
    have V47 : Arv Z h47 b29 k29 .byte (16 : Int32) [(.int (vi28.toInt8.toInt32)), (.int (vi28.toInt8.toInt32)), (.int (vi28.toInt8.toInt32)), (.int (vi28.toInt8.toInt32)), (.int (vi28.toInt8.toInt32)), (.int (vi28.toInt8.toInt32)), (.int (vi28.toInt8.toInt32)), (.int (vi28.toInt8.toInt32)), (.int (vi28.toInt8.toInt32)), (.int (0 : Int32)), (.int (0 : Int32)), (.int (0 : Int32)), (.int (0 : Int32)), (.int (0 : Int32)), (.int (0 : Int32)), (.int (0 : Int32))] (.int (0 : Int32)) := Arv.set Ar46 q46 S46 M46 H46 G46 (fits_nar_byte _) W47 8 rfl (Nat.le_of_ble_eq_true rfl)
    have N47 := Fr.snoc X47 N45 g_b29
    have K47 : Keep h0 h47 [] := K45.wr W47 (Or.inr sz_b29)
    show WP p e below _ (T47.setTop (mkF m 161 #[.val (.int p1), .val (.int p2), .val (.int p3), .val (.int p4), .val (.int vi1), .val (.int vi2), .val (.ref b3), .val (.int vi24), .val (.int z26_S0), .val (.int vi28), .unset, .unset] [(.ref b29)]))
    refine own_go (fun t_ k => XS.dup X47.here hx rfl (hb hby at_161) rfl rfl k) ?_
    show WP p e below _ (T47.setTop (mkF m 162 #[.val (.int p1), .val (.int p2), .val (.int p3), .val (.int p4), .val (.int vi1), .val (.int vi2), .val (.ref b3), .val (.int vi24), .val (.int z26_S0), .val (.int vi28), .unset, .unset] [(.ref b29), (.ref b29)]))
    refine own_go (fun t_ k => XS.bipush X47.here hx rfl (hb hby at_162) k) ?_
    show WP p e below _ (T47.setTop (mkF m 164 #[.val (.int p1), .val (.int p2), .val (.int p3), .val (.int p4), .val (.int vi1), .val (.int vi2), .val (.ref b3), .val (.int vi24), .val (.int z26_S0), .val (.int vi28), .unset, .unset] [(.int (9 : Int32)), (.ref b29), (.ref b29)]))
    refine own_go (fun t_ k => XS.iload X47.here hx rfl (hb hby at_164) rfl k) ?_
    show WP p e below _ (T47.setTop (mkF m 166 #[.val (.int p1), .val (.int p2), .val (.int p3), .val (.int p4), .val (.int vi1), .val (.int vi2), .val (.ref b3), .val (.int vi24), .val (.int z26_S0), .val (.int vi28), .unset, .unset] [(.int vi28), (.int (9 : Int32)), (.ref b29), (.ref b29)]))
    obtain ⟨cl48, Ar48, q48, S48, M48, H48, G48⟩ := id (V47)
    have hin48 : ¬ ((9 : Int32) < 0 ∨ cl48.slots.size ≤ ((9 : Int32)).toNatClampNeg) := inb_of S48 (⟨by decide, by decide⟩)
    obtain ⟨T49, h49, X49, e49, W49, st49⟩ := stB X47 hx hZ e47 Ar48 (j := (9 : Int32)) hin48 (g := (mkF m 166 #[.val (.int p1), .val (.int p2), .val (.int p3), .val (.int p4), .val (.int vi1), .val (.int vi2), .val (.ref b3), .val (.int vi24), .val (.int z26_S0), .val (.int vi28), .unset, .unset] [(.int vi28), (.int (9 : Int32)), (.ref b29), (.ref b29)])) rfl rfl (hb hby at_166)
    refine own_go st49 ?_
    have V49 : Arv Z h49 b29 k29 .byte (16 : Int32) [(.int (vi28.toInt8.toInt32)), (.int (vi28.toInt8.toInt32)), (.int (vi28.toInt8.toInt32)), (.int (vi28.toInt8.toInt32)), (.int (vi28.toInt8.toInt32)), (.int (vi28.toInt8.toInt32)), (.int (vi28.toInt8.toInt32)), (.int (vi28.toInt8.toInt32)), (.int (vi28.toInt8.toInt32)), (.int (vi28.toInt8.toInt32)), (.int (0 : Int32)), (.int (0 : Int32)), (.int (0 : Int32)), (.int (0 : Int32)), (.int (0 : Int32)), (.int (0 : Int32))] (.int (0 : Int32)) := Arv.set Ar48 q48 S48 M48 H48 G48 (fits_nar_byte _) W49 9 rfl (Nat.le_of_ble_eq_true rfl)
    have N49 := Fr.snoc X49 N47 g_b29
    have K49 : Keep h0 h49 [] := K47.wr W49 (Or.inr sz_b29)
    show WP p e below _ (T49.setTop (mkF m 167 #[.val (.int p1), .val (.int p2), .val (.int p3), .val (.int p4), .val (.int vi1), .val (.int vi2), .val (.ref b3), .val (.int vi24), .val (.int z26_S0), .val (.int vi28), .unset, .unset] [(.ref b29)]))
    refine own_go (fun t_ k => XS.dup X49.here hx rfl (hb hby at_167) rfl rfl k) ?_
    show WP p e below _ (T49.setTop (mkF m 168 #[.val (.int p1), .val (.int p2), .val (.int p3), .val (.int p4), .val (.int vi1), .val (.int vi2), .val (.ref b3), .val (.int vi24), .val (.int z26_S0), .val (.int vi28), .unset, .unset] [(.ref b29), (.ref b29)]))
    refine own_go (fun t_ k => XS.bipush X49.here hx rfl (hb hby at_168) k) ?_
    show WP p e below _ (T49.setTop (mkF m 170 #[.val (.int p1), .val (.int p2), .val (.int p3), .val (.int p4), .val (.int vi1), .val (.int vi2), .val (.ref b3), .val (.int vi24), .val (.int z26_S0), .val (.int vi28), .unset, .unset] [(.int (10 : Int32)), (.ref b29), (.ref b29)]))
    refine own_go (fun t_ k => XS.iload X49.here hx rfl (hb hby at_170) rfl k) ?_
    show WP p e below _ (T49.setTop (mkF m 172 #[.val (.int p1), .val (.int p2), .val (.int p3), .val (.int p4), .val (.int vi1), .val (.int vi2), .val (.ref b3), .val (.int vi24), .val (.int z26_S0), .val (.int vi28), .unset, .unset] [(.int vi28), (.int (10 : Int32)), (.ref b29), (.ref b29)]))
    obtain ⟨cl50, Ar50, q50, S50, M50, H50, G50⟩ := id (V49)
    have hin50 : ¬ ((10 : Int32) < 0 ∨ cl50.slots.size ≤ ((10 : Int32)).toNatClampNeg) := inb_of S50 (⟨by decide, by decide⟩)
    obtain ⟨T51, h51, X51, e51, W51, st51⟩ := stB X49 hx hZ e49 Ar50 (j := (10 : Int32)) hin50 (g := (mkF m 172 #[.val (.int p1), .val (.int p2), .val (.int p3), .val (.int p4), .val (.int vi1), .val (.int vi2), .val (.ref b3), .val (.int vi24), .val (.int z26_S0), .val (.int vi28), .unset, .unset] [(.int vi28), (.int (10 : Int32)), (.ref b29), (.ref b29)])) rfl rfl (hb hby at_172)
    refine own_go st51 ?_
    have V51 : Arv Z h51 b29 k29 .byte (16 : Int32) [(.int (vi28.toInt8.toInt32)), (.int (vi28.toInt8.toInt32)), (.int (vi28.toInt8.toInt32)), (.int (vi28.toInt8.toInt32)), (.int (vi28.toInt8.toInt32)), (.int (vi28.toInt8.toInt32)), (.int (vi28.toInt8.toInt32)), (.int (vi28.toInt8.toInt32)), (.int (vi28.toInt8.toInt32)), (.int (vi28.toInt8.toInt32)), (.int (vi28.toInt8.toInt32)), (.int (0 : Int32)), (.int (0 : Int32)), (.int (0 : Int32)), (.int (0 : Int32)), (.int (0 : Int32))] (.int (0 : Int32)) := Arv.set Ar50 q50 S50 M50 H50 G50 (fits_nar_byte _) W51 10 rfl (Nat.le_of_ble_eq_true rfl)
    have N51 := Fr.snoc X51 N49 g_b29
    have K51 : Keep h0 h51 [] := K49.wr W51 (Or.inr sz_b29)
    show WP p e below _ (T51.setTop (mkF m 173 #[.val (.int p1), .val (.int p2), .val (.int p3), .val (.int p4), .val (.int vi1), .val (.int vi2), .val (.ref b3), .val (.int vi24), .val (.int z26_S0), .val (.int vi28), .unset, .unset] [(.ref b29)]))
    refine own_go (fun t_ k => XS.dup X51.here hx rfl (hb hby at_173) rfl rfl k) ?_
    show WP p e below _ (T51.setTop (mkF m 174 #[.val (.int p1), .val (.int p2), .val (.int p3), .val (.int p4), .val (.int vi1), .val (.int vi2), .val (.ref b3), .val (.int vi24), .val (.int z26_S0), .val (.int vi28), .unset, .unset] [(.ref b29), (.ref b29)]))
    refine own_go (fun t_ k => XS.bipush X51.here hx rfl (hb hby at_174) k) ?_
    show WP p e below _ (T51.setTop (mkF m 176 #[.val (.int p1), .val (.int p2), .val (.int p3), .val (.int p4), .val (.int vi1), .val (.int vi2), .val (.ref b3), .val (.int vi24), .val (.int z26_S0), .val (.int vi28), .unset, .unset] [(.int (11 : Int32)), (.ref b29), (.ref b29)]))
    refine own_go (fun t_ k => XS.iload X51.here hx rfl (hb hby at_176) rfl k) ?_
    show WP p e below _ (T51.setTop (mkF m 178 #[.val (.int p1), .val (.int p2), .val (.int p3), .val (.int p4), .val (.int vi1), .val (.int vi2), .val (.ref b3), .val (.int vi24), .val (.int z26_S0), .val (.int vi28), .unset, .unset] [(.int vi28), (.int (11 : Int32)), (.ref b29), (.ref b29)]))
    obtain ⟨cl52, Ar52, q52, S52, M52, H52, G52⟩ := id (V51)
    have hin52 : ¬ ((11 : Int32) < 0 ∨ cl52.slots.size ≤ ((11 : Int32)).toNatClampNeg) := inb_of S52 (⟨by decide, by decide⟩)
    obtain ⟨T53, h53, X53, e53, W53, st53⟩ := stB X51 hx hZ e51 Ar52 (j := (11 : Int32)) hin52 (g := (mkF m 178 #[.val (.int p1), .val (.int p2), .val (.int p3), .val (.int p4), .val (.int vi1), .val (.int vi2), .val (.ref b3), .val (.int vi24), .val (.int z26_S0), .val (.int vi28), .unset, .unset] [(.int vi28), (.int (11 : Int32)), (.ref b29), (.ref b29)])) rfl rfl (hb hby at_178)
    refine own_go st53 ?_
    have V53 : Arv Z h53 b29 k29 .byte (16 : Int32) [(.int (vi28.toInt8.toInt32)), (.int (vi28.toInt8.toInt32)), (.int (vi28.toInt8.toInt32)), (.int (vi28.toInt8.toInt32)), (.int (vi28.toInt8.toInt32)), (.int (vi28.toInt8.toInt32)), (.int (vi28.toInt8.toInt32)), (.int (vi28.toInt8.toInt32)), (.int (vi28.toInt8.toInt32)), (.int (vi28.toInt8.toInt32)), (.int (vi28.toInt8.toInt32)), (.int (vi28.toInt8.toInt32)), (.int (0 : Int32)), (.int (0 : Int32)), (.int (0 : Int32)), (.int (0 : Int32))] (.int (0 : Int32)) := Arv.set Ar52 q52 S52 M52 H52 G52 (fits_nar_byte _) W53 11 rfl (Nat.le_of_ble_eq_true rfl)
    have N53 := Fr.snoc X53 N51 g_b29
    have K53 : Keep h0 h53 [] := K51.wr W53 (Or.inr sz_b29)
    show WP p e below _ (T53.setTop (mkF m 179 #[.val (.int p1), .val (.int p2), .val (.int p3), .val (.int p4), .val (.int vi1), .val (.int vi2), .val (.ref b3), .val (.int vi24), .val (.int z26_S0), .val (.int vi28), .unset, .unset] [(.ref b29)]))
    refine own_go (fun t_ k => XS.dup X53.here hx rfl (hb hby at_179) rfl rfl k) ?_
    show WP p e below _ (T53.setTop (mkF m 180 #[.val (.int p1), .val (.int p2), .val (.int p3), .val (.int p4), .val (.int vi1), .val (.int vi2), .val (.ref b3), .val (.int vi24), .val (.int z26_S0), .val (.int vi28), .unset, .unset] [(.ref b29), (.ref b29)]))
    refine own_go (fun t_ k => XS.bipush X53.here hx rfl (hb hby at_180) k) ?_
    show WP p e below _ (T53.setTop (mkF m 182 #[.val (.int p1), .val (.int p2), .val (.int p3), .val (.int p4), .val (.int vi1), .val (.int vi2), .val (.ref b3), .val (.int vi24), .val (.int z26_S0), .val (.int vi28), .unset, .unset] [(.int (12 : Int32)), (.ref b29), (.ref b29)]))
    refine own_go (fun t_ k => XS.iload X53.here hx rfl (hb hby at_182) rfl k) ?_
    show WP p e below _ (T53.setTop (mkF m 184 #[.val (.int p1), .val (.int p2), .val (.int p3), .val (.int p4), .val (.int vi1), .val (.int vi2), .val (.ref b3), .val (.int vi24), .val (.int z26_S0), .val (.int vi28), .unset, .unset] [(.int vi28), (.int (12 : Int32)), (.ref b29), (.ref b29)]))
    obtain ⟨cl54, Ar54, q54, S54, M54, H54, G54⟩ := id (V53)
    have hin54 : ¬ ((12 : Int32) < 0 ∨ cl54.slots.size ≤ ((12 : Int32)).toNatClampNeg) := inb_of S54 (⟨by decide, by decide⟩)
    obtain ⟨T55, h55, X55, e55, W55, st55⟩ := stB X53 hx hZ e53 Ar54 (j := (12 : Int32)) hin54 (g := (mkF m 184 #[.val (.int p1), .val (.int p2), .val (.int p3), .val (.int p4), .val (.int vi1), .val (.int vi2), .val (.ref b3), .val (.int vi24), .val (.int z26_S0), .val (.int vi28), .unset, .unset] [(.int vi28), (.int (12 : Int32)), (.ref b29), (.ref b29)])) rfl rfl (hb hby at_184)
    refine own_go st55 ?_
    have V55 : Arv Z h55 b29 k29 .byte (16 : Int32) [(.int (vi28.toInt8.toInt32)), (.int (vi28.toInt8.toInt32)), (.int (vi28.toInt8.toInt32)), (.int (vi28.toInt8.toInt32)), (.int (vi28.toInt8.toInt32)), (.int (vi28.toInt8.toInt32)), (.int (vi28.toInt8.toInt32)), (.int (vi28.toInt8.toInt32)), (.int (vi28.toInt8.toInt32)), (.int (vi28.toInt8.toInt32)), (.int (vi28.toInt8.toInt32)), (.int (vi28.toInt8.toInt32)), (.int (vi28.toInt8.toInt32)), (.int (0 : Int32)), (.int (0 : Int32)), (.int (0 : Int32))] (.int (0 : Int32)) := Arv.set Ar54 q54 S54 M54 H54 G54 (fits_nar_byte _) W55 12 rfl (Nat.le_of_ble_eq_true rfl)
    have N55 := Fr.snoc X55 N53 g_b29
    have K55 : Keep h0 h55 [] := K53.wr W55 (Or.inr sz_b29)
    show WP p e below _ (T55.setTop (mkF m 185 #[.val (.int p1), .val (.int p2), .val (.int p3), .val (.int p4), .val (.int vi1), .val (.int vi2), .val (.ref b3), .val (.int vi24), .val (.int z26_S0), .val (.int vi28), .unset, .unset] [(.ref b29)]))
    refine own_go (fun t_ k => XS.dup X55.here hx rfl (hb hby at_185) rfl rfl k) ?_
    show WP p e below _ (T55.setTop (mkF m 186 #[.val (.int p1), .val (.int p2), .val (.int p3), .val (.int p4), .val (.int vi1), .val (.int vi2), .val (.ref b3), .val (.int vi24), .val (.int z26_S0), .val (.int vi28), .unset, .unset] [(.ref b29), (.ref b29)]))
    refine own_go (fun t_ k => XS.bipush X55.here hx rfl (hb hby at_186) k) ?_
    show WP p e below _ (T55.setTop (mkF m 188 #[.val (.int p1), .val (.int p2), .val (.int p3), .val (.int p4), .val (.int vi1), .val (.int vi2), .val (.ref b3), .val (.int vi24), .val (.int z26_S0), .val (.int vi28), .unset, .unset] [(.int (13 : Int32)), (.ref b29), (.ref b29)]))
    refine own_go (fun t_ k => XS.iload X55.here hx rfl (hb hby at_188) rfl k) ?_
    show WP p e below _ (T55.setTop (mkF m 190 #[.val (.int p1), .val (.int p2), .val (.int p3), .val (.int p4), .val (.int vi1), .val (.int vi2), .val (.ref b3), .val (.int vi24), .val (.int z26_S0), .val (.int vi28), .unset, .unset] [(.int vi28), (.int (13 : Int32)), (.ref b29), (.ref b29)]))
    obtain ⟨cl56, Ar56, q56, S56, M56, H56, G56⟩ := id (V55)
    have hin56 : ¬ ((13 : Int32) < 0 ∨ cl56.slots.size ≤ ((13 : Int32)).toNatClampNeg) := inb_of S56 (⟨by decide, by decide⟩)
    obtain ⟨T57, h57, X57, e57, W57, st57⟩ := stB X55 hx hZ e55 Ar56 (j := (13 : Int32)) hin56 (g := (mkF m 190 #[.val (.int p1), .val (.int p2), .val (.int p3), .val (.int p4), .val (.int vi1), .val (.int vi2), .val (.ref b3), .val (.int vi24), .val (.int z26_S0), .val (.int vi28), .unset, .unset] [(.int vi28), (.int (13 : Int32)), (.ref b29), (.ref b29)])) rfl rfl (hb hby at_190)
    refine own_go st57 ?_
    have V57 : Arv Z h57 b29 k29 .byte (16 : Int32) [(.int (vi28.toInt8.toInt32)), (.int (vi28.toInt8.toInt32)), (.int (vi28.toInt8.toInt32)), (.int (vi28.toInt8.toInt32)), (.int (vi28.toInt8.toInt32)), (.int (vi28.toInt8.toInt32)), (.int (vi28.toInt8.toInt32)), (.int (vi28.toInt8.toInt32)), (.int (vi28.toInt8.toInt32)), (.int (vi28.toInt8.toInt32)), (.int (vi28.toInt8.toInt32)), (.int (vi28.toInt8.toInt32)), (.int (vi28.toInt8.toInt32)), (.int (vi28.toInt8.toInt32)), (.int (0 : Int32)), (.int (0 : Int32))] (.int (0 : Int32)) := Arv.set Ar56 q56 S56 M56 H56 G56 (fits_nar_byte _) W57 13 rfl (Nat.le_of_ble_eq_true rfl)
    have N57 := Fr.snoc X57 N55 g_b29
    have K57 : Keep h0 h57 [] := K55.wr W57 (Or.inr sz_b29)
    show WP p e below _ (T57.setTop (mkF m 191 #[.val (.int p1), .val (.int p2), .val (.int p3), .val (.int p4), .val (.int vi1), .val (.int vi2), .val (.ref b3), .val (.int vi24), .val (.int z26_S0), .val (.int vi28), .unset, .unset] [(.ref b29)]))
    refine own_go (fun t_ k => XS.dup X57.here hx rfl (hb hby at_191) rfl rfl k) ?_
    show WP p e below _ (T57.setTop (mkF m 192 #[.val (.int p1), .val (.int p2), .val (.int p3), .val (.int p4), .val (.int vi1), .val (.int vi2), .val (.ref b3), .val (.int vi24), .val (.int z26_S0), .val (.int vi28), .unset, .unset] [(.ref b29), (.ref b29)]))
    refine own_go (fun t_ k => XS.bipush X57.here hx rfl (hb hby at_192) k) ?_
    show WP p e below _ (T57.setTop (mkF m 194 #[.val (.int p1), .val (.int p2), .val (.int p3), .val (.int p4), .val (.int vi1), .val (.int vi2), .val (.ref b3), .val (.int vi24), .val (.int z26_S0), .val (.int vi28), .unset, .unset] [(.int (14 : Int32)), (.ref b29), (.ref b29)]))
    refine own_go (fun t_ k => XS.iload X57.here hx rfl (hb hby at_194) rfl k) ?_
    show WP p e below _ (T57.setTop (mkF m 196 #[.val (.int p1), .val (.int p2), .val (.int p3), .val (.int p4), .val (.int vi1), .val (.int vi2), .val (.ref b3), .val (.int vi24), .val (.int z26_S0), .val (.int vi28), .unset, .unset] [(.int vi28), (.int (14 : Int32)), (.ref b29), (.ref b29)]))
    obtain ⟨cl58, Ar58, q58, S58, M58, H58, G58⟩ := id (V57)
    have hin58 : ¬ ((14 : Int32) < 0 ∨ cl58.slots.size ≤ ((14 : Int32)).toNatClampNeg) := inb_of S58 (⟨by decide, by decide⟩)
    obtain ⟨T59, h59, X59, e59, W59, st59⟩ := stB X57 hx hZ e57 Ar58 (j := (14 : Int32)) hin58 (g := (mkF m 196 #[.val (.int p1), .val (.int p2), .val (.int p3), .val (.int p4), .val (.int vi1), .val (.int vi2), .val (.ref b3), .val (.int vi24), .val (.int z26_S0), .val (.int vi28), .unset, .unset] [(.int vi28), (.int (14 : Int32)), (.ref b29), (.ref b29)])) rfl rfl (hb hby at_196)
    refine own_go st59 ?_
    have V59 : Arv Z h59 b29 k29 .byte (16 : Int32) [(.int (vi28.toInt8.toInt32)), (.int (vi28.toInt8.toInt32)), (.int (vi28.toInt8.toInt32)), (.int (vi28.toInt8.toInt32)), (.int (vi28.toInt8.toInt32)), (.int (vi28.toInt8.toInt32)), (.int (vi28.toInt8.toInt32)), (.int (vi28.toInt8.toInt32)), (.int (vi28.toInt8.toInt32)), (.int (vi28.toInt8.toInt32)), (.int (vi28.toInt8.toInt32)), (.int (vi28.toInt8.toInt32)), (.int (vi28.toInt8.toInt32)), (.int (vi28.toInt8.toInt32)), (.int (vi28.toInt8.toInt32)), (.int (0 : Int32))] (.int (0 : Int32)) := Arv.set Ar58 q58 S58 M58 H58 G58 (fits_nar_byte _) W59 14 rfl (Nat.le_of_ble_eq_true rfl)
    have N59 := Fr.snoc X59 N57 g_b29
    have K59 : Keep h0 h59 [] := K57.wr W59 (Or.inr sz_b29)
    show WP p e below _ (T59.setTop (mkF m 197 #[.val (.int p1), .val (.int p2), .val (.int p3), .val (.int p4), .val (.int vi1), .val (.int vi2), .val (.ref b3), .val (.int vi24), .val (.int z26_S0), .val (.int vi28), .unset, .unset] [(.ref b29)]))
    refine own_go (fun t_ k => XS.dup X59.here hx rfl (hb hby at_197) rfl rfl k) ?_
    show WP p e below _ (T59.setTop (mkF m 198 #[.val (.int p1), .val (.int p2), .val (.int p3), .val (.int p4), .val (.int vi1), .val (.int vi2), .val (.ref b3), .val (.int vi24), .val (.int z26_S0), .val (.int vi28), .unset, .unset] [(.ref b29), (.ref b29)]))
    refine own_go (fun t_ k => XS.bipush X59.here hx rfl (hb hby at_198) k) ?_
    show WP p e below _ (T59.setTop (mkF m 200 #[.val (.int p1), .val (.int p2), .val (.int p3), .val (.int p4), .val (.int vi1), .val (.int vi2), .val (.ref b3), .val (.int vi24), .val (.int z26_S0), .val (.int vi28), .unset, .unset] [(.int (15 : Int32)), (.ref b29), (.ref b29)]))
    refine own_go (fun t_ k => XS.iload X59.here hx rfl (hb hby at_200) rfl k) ?_
    show WP p e below _ (T59.setTop (mkF m 202 #[.val (.int p1), .val (.int p2), .val (.int p3), .val (.int p4), .val (.int vi1), .val (.int vi2), .val (.ref b3), .val (.int vi24), .val (.int z26_S0), .val (.int vi28), .unset, .unset] [(.int vi28), (.int (15 : Int32)), (.ref b29), (.ref b29)]))
    obtain ⟨cl60, Ar60, q60, S60, M60, H60, G60⟩ := id (V59)
    have hin60 : ¬ ((15 : Int32) < 0 ∨ cl60.slots.size ≤ ((15 : Int32)).toNatClampNeg) := inb_of S60 (⟨by decide, by decide⟩)
    obtain ⟨T61, h61, X61, e61, W61, st61⟩ := stB X59 hx hZ e59 Ar60 (j := (15 : Int32)) hin60 (g := (mkF m 202 #[.val (.int p1), .val (.int p2), .val (.int p3), .val (.int p4), .val (.int vi1), .val (.int vi2), .val (.ref b3), .val (.int vi24), .val (.int z26_S0), .val (.int vi28), .unset, .unset] [(.int vi28), (.int (15 : Int32)), (.ref b29), (.ref b29)])) rfl rfl (hb hby at_202)
    refine own_go st61 ?_
    have V61 : Arv Z h61 b29 k29 .byte (16 : Int32) [(.int (vi28.toInt8.toInt32)), (.int (vi28.toInt8.toInt32)), (.int (vi28.toInt8.toInt32)), (.int (vi28.toInt8.toInt32)), (.int (vi28.toInt8.toInt32)), (.int (vi28.toInt8.toInt32)), (.int (vi28.toInt8.toInt32)), (.int (vi28.toInt8.toInt32)), (.int (vi28.toInt8.toInt32)), (.int (vi28.toInt8.toInt32)), (.int (vi28.toInt8.toInt32)), (.int (vi28.toInt8.toInt32)), (.int (vi28.toInt8.toInt32)), (.int (vi28.toInt8.toInt32)), (.int (vi28.toInt8.toInt32)), (.int (vi28.toInt8.toInt32))] (.int (0 : Int32)) := Arv.set Ar60 q60 S60 M60 H60 G60 (fits_nar_byte _) W61 15 rfl (Nat.le_of_ble_eq_true rfl)
    have N61 := Fr.snoc X61 N59 g_b29
    have K61 : Keep h0 h61 [] := K59.wr W61 (Or.inr sz_b29)
    show WP p e below _ (T61.setTop (mkF m 203 #[.val (.int p1), .val (.int p2), .val (.int p3), .val (.int p4), .val (.int vi1), .val (.int vi2), .val (.ref b3), .val (.int vi24), .val (.int z26_S0), .val (.int vi28), .unset, .unset] [(.ref b29)]))
    refine own_go (fun t_ k => XS.astore X61.here hx rfl (hb hby at_203) rfl rfl (l' := #[.val (.int p1), .val (.int p2), .val (.int p3), .val (.int p4), .val (.int vi1), .val (.int vi2), .val (.ref b3), .val (.int vi24), .val (.int z26_S0), .val (.int vi28), .val (.ref b29), .unset]) rfl k) ?_
    have hspec := own_spec (N := z26_S0.toInt.toNat) (P := P) (M := M) (show vi28.toInt8.toInt32 = vi28 by rw [← he28]; exact own_b8 _) hP3 hM5
    show WP p e below _ (T61.setTop (mkF m 205 #[.val (.int p1), .val (.int p2), .val (.int p3), .val (.int p4), .val (.int vi1), .val (.int vi2), .val (.ref b3), .val (.int vi24), .val (.int z26_S0), .val (.int vi28), .val (.ref b29), .unset] []))
    refine own_go (fun t_ k => XS.aload X61.here hx rfl (hb hby at_205) rfl rfl k) ?_
    show WP p e below _ (T61.setTop (mkF m 207 #[.val (.int p1), .val (.int p2), .val (.int p3), .val (.int p4), .val (.int vi1), .val (.int vi2), .val (.ref b3), .val (.int vi24), .val (.int z26_S0), .val (.int vi28), .val (.ref b29), .unset] [(.ref b29)]))
    refine own_go (fun t_ k => XS.iload X61.here hx rfl (hb hby at_207) rfl k) ?_
    show WP p e below _ (T61.setTop (mkF m 209 #[.val (.int p1), .val (.int p2), .val (.int p3), .val (.int p4), .val (.int vi1), .val (.int vi2), .val (.ref b3), .val (.int vi24), .val (.int z26_S0), .val (.int vi28), .val (.ref b29), .unset] [(.int vi2), (.ref b29)]))
    refine own_go (fun t_ k => XS.iload X61.here hx rfl (hb hby at_209) rfl k) ?_
    show WP p e below _ (T61.setTop (mkF m 211 #[.val (.int p1), .val (.int p2), .val (.int p3), .val (.int p4), .val (.int vi1), .val (.int vi2), .val (.ref b3), .val (.int vi24), .val (.int z26_S0), .val (.int vi28), .val (.ref b29), .unset] [(.int z26_S0), (.int vi2), (.ref b29)]))
    refine own_go (fun t_ k => XS.iload X61.here hx rfl (hb hby at_211) rfl k) ?_
    show WP p e below _ (T61.setTop (mkF m 213 #[.val (.int p1), .val (.int p2), .val (.int p3), .val (.int p4), .val (.int vi1), .val (.int vi2), .val (.ref b3), .val (.int vi24), .val (.int z26_S0), .val (.int vi28), .val (.ref b29), .unset] [(.int vi1), (.int z26_S0), (.int vi2), (.ref b29)]))
    obtain ⟨_, T62, Lc62, X62, hQ62, st62⟩ := own_un X61 0 0 (Jvm.LawKit.callS X61 hx (y := (⟨"com/example/bittern/bittern/Digits", "put", "([BIII)I"⟩ : MethodName)) hown (mvT hZ (hw _ (List.mem_of_getElem? (i := 8) rfl))) (mvT hZ (hw _ (List.mem_of_getElem? (i := 9) rfl))) (mvT hZ (hw _ (List.mem_of_getElem? (i := 10) rfl))) (mvT hZ (hw _ (List.mem_of_getElem? (i := 11) rfl))) (by decide) (backOf (W := 0) (rm1 l Z a0 hw [] b29 vi2 z26_S0 vi1 k29 tt kt to ko [(vi28.toInt8.toInt32), (vi28.toInt8.toInt32), (vi28.toInt8.toInt32), (vi28.toInt8.toInt32), (vi28.toInt8.toInt32), (vi28.toInt8.toInt32), (vi28.toInt8.toInt32), (vi28.toInt8.toInt32), (vi28.toInt8.toInt32), (vi28.toInt8.toInt32), (vi28.toInt8.toInt32), (vi28.toInt8.toInt32), (vi28.toInt8.toInt32), (vi28.toInt8.toInt32), (vi28.toInt8.toInt32), (vi28.toInt8.toInt32)] P M h61 n0 V61 rfl g_b29 ((((((((((((((((((((((((((((S_t.ext E3).wr W5).wr W7).wr W9).wr W11).wr W13).wr W15).wr W17).wr W19).wr W21).wr W23).ext E29).wr W31).wr W33).wr W35).wr W37).wr W39).wr W41).wr W43).wr W45).wr W47).wr W49).wr W51).wr W53).wr W55).wr W57).wr W59).wr W61) ((((((((((((((((((((((((((((V_t.ext E3).other W5 ne_tt_b3).other W7 ne_tt_b3).other W9 ne_tt_b3).other W11 ne_tt_b3).other W13 ne_tt_b3).other W15 ne_tt_b3).other W17 ne_tt_b3).other W19 ne_tt_b3).other W21 ne_tt_b3).other W23 ne_tt_b3).ext E29).other W31 ne_tt_b29).other W33 ne_tt_b29).other W35 ne_tt_b29).other W37 ne_tt_b29).other W39 ne_tt_b29).other W41 ne_tt_b29).other W43 ne_tt_b29).other W45 ne_tt_b29).other W47 ne_tt_b29).other W49 ne_tt_b29).other W51 ne_tt_b29).other W53 ne_tt_b29).other W55 ne_tt_b29).other W57 ne_tt_b29).other W59 ne_tt_b29).other W61 ne_tt_b29) ((((((((((((((((((((((((((((S_o.ext E3).wr W5).wr W7).wr W9).wr W11).wr W13).wr W15).wr W17).wr W19).wr W21).wr W23).ext E29).wr W31).wr W33).wr W35).wr W37).wr W39).wr W41).wr W43).wr W45).wr W47).wr W49).wr W51).wr W53).wr W55).wr W57).wr W59).wr W61) ((((((((((((((((((((((((((((V_o.ext E3).other W5 ne_to_b3).other W7 ne_to_b3).other W9 ne_to_b3).other W11 ne_to_b3).other W13 ne_to_b3).other W15 ne_to_b3).other W17 ne_to_b3).other W19 ne_to_b3).other W21 ne_to_b3).other W23 ne_to_b3).ext E29).other W31 ne_to_b29).other W33 ne_to_b29).other W35 ne_to_b29).other W37 ne_to_b29).other W39 ne_to_b29).other W41 ne_to_b29).other W43 ne_to_b29).other W45 ne_to_b29).other W47 ne_to_b29).other W49 ne_to_b29).other W51 ne_to_b29).other W53 ne_to_b29).other W55 ne_to_b29).other W57 ne_to_b29).other W59 ne_to_b29).other W61 ne_to_b29) ne_tt_b29 ne_to_b29 hP hP3 hM hM5 (own_num he24 hz26_S0)) hZ (hw _ (List.mem_of_getElem? (i := 11) rfl)) (hw _ (List.mem_of_getElem? (i := 10) rfl)) (by decide) (by decide)) (g := (mkF m 213 #[.val (.int p1), .val (.int p2), .val (.int p3), .val (.int p4), .val (.int vi1), .val (.int vi2), .val (.ref b3), .val (.int vi24), .val (.int z26_S0), .val (.int vi28), .val (.ref b29), .unset] [(.int vi1), (.int z26_S0), (.int vi2), (.ref b29)])) rfl (by rw [hml]; rfl) (argsL := [(.ref b29), (.int vi2), (.int z26_S0), (.int vi1)]) (rest := []) (lenOf pd_0 rfl) rfl (by show 2 * 0 + _ ≤ _; exact Nat.le_of_eq rfl) (hb hby at_213) (fun _ _ => ⟨rfl, e61, (by decide : 2 + 0 ≤ _), (by decide : 26 + 0 ≤ _)⟩))
    dsimp only [Pt.U] at st62
    obtain ⟨rfl, N62q, K62c, Vp62⟩ := hQ62
    have N62 := Fr.app N61 N62q
    replace X62 : Stand p l e room_1 s m _ below meth c T62 _ 2 26 := X62
    refine own_go st62 ?_
    have K62 : Keep h0 T62.heap [] := K61.trans K62c (allS (Or.inr sz_b29) all0)
    show WP p e below _ (T62.setTop (mkF m 216 #[.val (.int p1), .val (.int p2), .val (.int p3), .val (.int p4), .val (.int vi1), .val (.int vi2), .val (.ref b3), .val (.int vi24), .val (.int z26_S0), .val (.int vi28), .val (.ref b29), .unset] [(.int (vi2 + vi1))]))
    generalize he63 : (vi2 + vi1) = vi63
    show WP p e below _ (T62.setTop (mkF m 216 #[.val (.int p1), .val (.int p2), .val (.int p3), .val (.int p4), .val (.int vi1), .val (.int vi2), .val (.ref b3), .val (.int vi24), .val (.int z26_S0), .val (.int vi28), .val (.ref b29), .unset] [(.int vi63)]))
    refine own_go (fun t_ k => XS.istore X62.here hx rfl (hb hby at_216) rfl (l' := #[.val (.int p1), .val (.int p2), .val (.int p3), .val (.int p4), .val (.int vi1), .val (.int vi2), .val (.ref b3), .val (.int vi24), .val (.int z26_S0), .val (.int vi28), .val (.ref b29), .val (.int vi63)]) rfl k) ?_
    show WP p e below _ (T62.setTop (mkF m 218 #[.val (.int p1), .val (.int p2), .val (.int p3), .val (.int p4), .val (.int vi1), .val (.int vi2), .val (.ref b3), .val (.int vi24), .val (.int z26_S0), .val (.int vi28), .val (.ref b29), .val (.int vi63)] []))
    refine own_go (fun t_ k => XS.iload X62.here hx rfl (hb hby at_218) rfl k) ?_
    show WP p e below _ (T62.setTop (mkF m 220 #[.val (.int p1), .val (.int p2), .val (.int p3), .val (.int p4), .val (.int vi1), .val (.int vi2), .val (.ref b3), .val (.int vi24), .val (.int z26_S0), .val (.int vi28), .val (.ref b29), .val (.int vi63)] [(.int vi63)]))
    refine own_go (fun t_ k => XS.iload X62.here hx rfl (hb hby at_220) rfl k) ?_
    show WP p e below _ (T62.setTop (mkF m 222 #[.val (.int p1), .val (.int p2), .val (.int p3), .val (.int p4), .val (.int vi1), .val (.int vi2), .val (.ref b3), .val (.int vi24), .val (.int z26_S0), .val (.int vi28), .val (.ref b29), .val (.int vi63)] [(.int vi2), (.int vi63)]))
    refine own_go (fun t_ k => XS.iload X62.here hx rfl (hb hby at_222) rfl k) ?_
    show WP p e below _ (T62.setTop (mkF m 224 #[.val (.int p1), .val (.int p2), .val (.int p3), .val (.int p4), .val (.int vi1), .val (.int vi2), .val (.ref b3), .val (.int vi24), .val (.int z26_S0), .val (.int vi28), .val (.ref b29), .val (.int vi63)] [(.int vi1), (.int vi2), (.int vi63)]))
    refine own_go (fun t_ k => XS.iadd X62.here hx rfl (hb hby at_224) rfl k) ?_
    show WP p e below _ (T62.setTop (mkF m 225 #[.val (.int p1), .val (.int p2), .val (.int p3), .val (.int p4), .val (.int vi1), .val (.int vi2), .val (.ref b3), .val (.int vi24), .val (.int z26_S0), .val (.int vi28), .val (.ref b29), .val (.int vi63)] [(.int (vi2 + vi1)), (.int vi63)]))
    have J66 : ∀ (T66 : State) (ls66 : List Loc) (X66 : Stand p l e room_1 s m #[(.int p1), (.int p2), (.int p3), (.int p4)] below meth c T66 ls66 2 26) (N66 : Fr n0 ls66) (e66 : T66.heap = T62.heap) (z65_S0 : Int32) (hz65_S0 : z65_S0 = (if vi63 = (vi2 + vi1) then (1 : Int32) else (0 : Int32))), WP p e below (GG (Q0 n0) s room_1.cells room_1.slots) (T66.setTop (mkF m 547 #[.val (.int p1), .val (.int p2), .val (.int p3), .val (.int p4), .val (.int vi1), .val (.int vi2), .val (.ref b3), .val (.int vi24), .val (.int z26_S0), .val (.int vi28), .val (.ref b29), .val (.int vi63)] [(.int z65_S0)])) := by
      intro T66 ls66 X66 N66 e66 z65_S0 hz65_S0
      show WP p e below _ (T66.setTop (mkF m 547 #[.val (.int p1), .val (.int p2), .val (.int p3), .val (.int p4), .val (.int vi1), .val (.int vi2), .val (.ref b3), .val (.int vi24), .val (.int z26_S0), .val (.int vi28), .val (.ref b29), .val (.int vi63)] [(.int z65_S0)]))
      exact own_retZ X66 hx Bd.notSynchronized Bd.returns (hb hby at_547) (by rw [hz65_S0]; (repeat' split); all_goals first | exact Or.inl rfl | exact Or.inr rfl) (show Q0 n0 _ _ _ from ⟨congrArg (fun z => some (Value.int z)) (own_law_1 (p1 := p1) (p2 := p2) (p3 := p3) (p4 := p4) he1 he2 he24 hz26_S0 he28 he63 hz65_S0), N66⟩) (by decide) (by decide)
    by_cases hc225_64 : vi63 = (vi2 + vi1)
    · refine own_go (fun t_ k => XS.icmpNo X62.here hx rfl (hb hby at_225) rfl (teq hc225_64).2 k) ?_
      show WP p e below _ (T62.setTop (mkF m 228 #[.val (.int p1), .val (.int p2), .val (.int p3), .val (.int p4), .val (.int vi1), .val (.int vi2), .val (.ref b3), .val (.int vi24), .val (.int z26_S0), .val (.int vi28), .val (.ref b29), .val (.int vi63)] []))
      refine own_go (fun t_ k => XS.aload X62.here hx rfl (hb hby at_228) rfl rfl k) ?_
      show WP p e below _ (T62.setTop (mkF m 230 #[.val (.int p1), .val (.int p2), .val (.int p3), .val (.int p4), .val (.int vi1), .val (.int vi2), .val (.ref b3), .val (.int vi24), .val (.int z26_S0), .val (.int vi28), .val (.ref b29), .val (.int vi63)] [(.ref b29)]))
      refine own_go (fun t_ k => XS.iconst X62.here hx rfl (hb hby at_230) k) ?_
      show WP p e below _ (T62.setTop (mkF m 231 #[.val (.int p1), .val (.int p2), .val (.int p3), .val (.int p4), .val (.int vi1), .val (.int vi2), .val (.ref b3), .val (.int vi24), .val (.int z26_S0), .val (.int vi28), .val (.ref b29), .val (.int vi63)] [(.int (0 : Int32)), (.ref b29)]))
      refine own_go (fun t_ k => XS.iload X62.here hx rfl (hb hby at_231) rfl k) ?_
      show WP p e below _ (T62.setTop (mkF m 233 #[.val (.int p1), .val (.int p2), .val (.int p3), .val (.int p4), .val (.int vi1), .val (.int vi2), .val (.ref b3), .val (.int vi24), .val (.int z26_S0), .val (.int vi28), .val (.ref b29), .val (.int vi63)] [(.int vi2), (.int (0 : Int32)), (.ref b29)]))
      refine own_go (fun t_ k => XS.iload X62.here hx rfl (hb hby at_233) rfl k) ?_
      show WP p e below _ (T62.setTop (mkF m 235 #[.val (.int p1), .val (.int p2), .val (.int p3), .val (.int p4), .val (.int vi1), .val (.int vi2), .val (.ref b3), .val (.int vi24), .val (.int z26_S0), .val (.int vi28), .val (.ref b29), .val (.int vi63)] [(.int z26_S0), (.int vi2), (.int (0 : Int32)), (.ref b29)]))
      refine own_go (fun t_ k => XS.iload X62.here hx rfl (hb hby at_235) rfl k) ?_
      show WP p e below _ (T62.setTop (mkF m 237 #[.val (.int p1), .val (.int p2), .val (.int p3), .val (.int p4), .val (.int vi1), .val (.int vi2), .val (.ref b3), .val (.int vi24), .val (.int z26_S0), .val (.int vi28), .val (.ref b29), .val (.int vi63)] [(.int vi1), (.int z26_S0), (.int vi2), (.int (0 : Int32)), (.ref b29)]))
      refine own_go (fun t_ k => XS.iload X62.here hx rfl (hb hby at_237) rfl k) ?_
      show WP p e below _ (T62.setTop (mkF m 239 #[.val (.int p1), .val (.int p2), .val (.int p3), .val (.int p4), .val (.int vi1), .val (.int vi2), .val (.ref b3), .val (.int vi24), .val (.int z26_S0), .val (.int vi28), .val (.ref b29), .val (.int vi63)] [(.int vi28), (.int vi1), (.int z26_S0), (.int vi2), (.int (0 : Int32)), (.ref b29)]))
      refine own_go (fun t_ k => XS.aload X62.here hx rfl (hb hby at_239) rfl rfl k) ?_
      show WP p e below _ (T62.setTop (mkF m 241 #[.val (.int p1), .val (.int p2), .val (.int p3), .val (.int p4), .val (.int vi1), .val (.int vi2), .val (.ref b3), .val (.int vi24), .val (.int z26_S0), .val (.int vi28), .val (.ref b29), .val (.int vi63)] [(.ref b3), (.int vi28), (.int vi1), (.int z26_S0), (.int vi2), (.int (0 : Int32)), (.ref b29)]))
      obtain ⟨_, T67, Lc67, X67, hQ67, st67⟩ := own_un X62 0 0 (Jvm.LawKit.callS X62 hx (y := (⟨"com/example/bittern/bittern/DigitsPutPinLaw", "at", "([BIIIIB[I)Z"⟩ : MethodName)) hown (mvT hZ (hw _ (List.mem_of_getElem? (i := 16) rfl))) (mvT hZ (hw _ (List.mem_of_getElem? (i := 17) rfl))) (mvT hZ (hw _ (List.mem_of_getElem? (i := 18) rfl))) (mvT hZ (hw _ (List.mem_of_getElem? (i := 19) rfl))) (by decide) (backOf (W := 0) (rm2 l Z a0 hw [] b29 (0 : Int32) vi2 z26_S0 vi1 vi28 b3 k29 k3 (putL P [(vi28.toInt8.toInt32), (vi28.toInt8.toInt32), (vi28.toInt8.toInt32), (vi28.toInt8.toInt32), (vi28.toInt8.toInt32), (vi28.toInt8.toInt32), (vi28.toInt8.toInt32), (vi28.toInt8.toInt32), (vi28.toInt8.toInt32), (vi28.toInt8.toInt32), (vi28.toInt8.toInt32), (vi28.toInt8.toInt32), (vi28.toInt8.toInt32), (vi28.toInt8.toInt32), (vi28.toInt8.toInt32), (vi28.toInt8.toInt32)] z26_S0.toInt.toNat M) T62.heap n0 Vp62 ((((((((((((((((((V23.ext E29).other W31 ne_b3_b29).other W33 ne_b3_b29).other W35 ne_b3_b29).other W37 ne_b3_b29).other W39 ne_b3_b29).other W41 ne_b3_b29).other W43 ne_b3_b29).other W45 ne_b3_b29).other W47 ne_b3_b29).other W49 ne_b3_b29).other W51 ne_b3_b29).other W53 ne_b3_b29).other W55 ne_b3_b29).other W57 ne_b3_b29).other W59 ne_b3_b29).other W61 ne_b3_b29).keep K62c (ninS ne_b3_b29 nin0)) (by decide) (own_A hspec hP hM hP3 hM5 (0 : Int32) (by decide) (by decide)) (own_C hspec hP hM hP3 hM5 (own_num he24 hz26_S0) (0 : Int32) (by decide) (by decide))) hZ (hw _ (List.mem_of_getElem? (i := 19) rfl)) (hw _ (List.mem_of_getElem? (i := 18) rfl)) (by decide) (by decide)) (g := (mkF m 241 #[.val (.int p1), .val (.int p2), .val (.int p3), .val (.int p4), .val (.int vi1), .val (.int vi2), .val (.ref b3), .val (.int vi24), .val (.int z26_S0), .val (.int vi28), .val (.ref b29), .val (.int vi63)] [(.ref b3), (.int vi28), (.int vi1), (.int z26_S0), (.int vi2), (.int (0 : Int32)), (.ref b29)])) rfl (by rw [hml]; rfl) (argsL := [(.ref b29), (.int (0 : Int32)), (.int vi2), (.int z26_S0), (.int vi1), (.int vi28), (.ref b3)]) (rest := []) (lenOf pd_1 rfl) rfl (by show 2 * 0 + _ ≤ _; exact Nat.le_of_eq rfl) (hb hby at_241) (fun _ _ => ⟨rfl, rfl, (by decide : 2 + 0 ≤ _), (by decide : 26 + 0 ≤ _)⟩))
      dsimp only [Pt.U] at st67
      obtain ⟨rfl, N67q, e67⟩ := hQ67
      have N67 := Fr.app N62 N67q
      replace X67 : Stand p l e room_1 s m _ below meth c T67 _ 2 26 := X67
      refine own_go st67 ?_
      show WP p e below _ (T67.setTop (mkF m 244 #[.val (.int p1), .val (.int p2), .val (.int p3), .val (.int p4), .val (.int vi1), .val (.int vi2), .val (.ref b3), .val (.int vi24), .val (.int z26_S0), .val (.int vi28), .val (.ref b29), .val (.int vi63)] [(.int (1 : Int32))]))
      have hc244_68 : ¬ ((1 : Int32) = (0 : Int32)) := by decide
      refine own_go (fun t_ k => XS.ifNo X67.here hx rfl (hb hby at_244) rfl ((if0 _ _).trans (feq hc244_68).1) k) ?_
      show WP p e below _ (T67.setTop (mkF m 247 #[.val (.int p1), .val (.int p2), .val (.int p3), .val (.int p4), .val (.int vi1), .val (.int vi2), .val (.ref b3), .val (.int vi24), .val (.int z26_S0), .val (.int vi28), .val (.ref b29), .val (.int vi63)] []))
      refine own_go (fun t_ k => XS.aload X67.here hx rfl (hb hby at_247) rfl rfl k) ?_
      show WP p e below _ (T67.setTop (mkF m 249 #[.val (.int p1), .val (.int p2), .val (.int p3), .val (.int p4), .val (.int vi1), .val (.int vi2), .val (.ref b3), .val (.int vi24), .val (.int z26_S0), .val (.int vi28), .val (.ref b29), .val (.int vi63)] [(.ref b29)]))
      refine own_go (fun t_ k => XS.iconst X67.here hx rfl (hb hby at_249) k) ?_
      show WP p e below _ (T67.setTop (mkF m 250 #[.val (.int p1), .val (.int p2), .val (.int p3), .val (.int p4), .val (.int vi1), .val (.int vi2), .val (.ref b3), .val (.int vi24), .val (.int z26_S0), .val (.int vi28), .val (.ref b29), .val (.int vi63)] [(.int (1 : Int32)), (.ref b29)]))
      refine own_go (fun t_ k => XS.iload X67.here hx rfl (hb hby at_250) rfl k) ?_
      show WP p e below _ (T67.setTop (mkF m 252 #[.val (.int p1), .val (.int p2), .val (.int p3), .val (.int p4), .val (.int vi1), .val (.int vi2), .val (.ref b3), .val (.int vi24), .val (.int z26_S0), .val (.int vi28), .val (.ref b29), .val (.int vi63)] [(.int vi2), (.int (1 : Int32)), (.ref b29)]))
      refine own_go (fun t_ k => XS.iload X67.here hx rfl (hb hby at_252) rfl k) ?_
      show WP p e below _ (T67.setTop (mkF m 254 #[.val (.int p1), .val (.int p2), .val (.int p3), .val (.int p4), .val (.int vi1), .val (.int vi2), .val (.ref b3), .val (.int vi24), .val (.int z26_S0), .val (.int vi28), .val (.ref b29), .val (.int vi63)] [(.int z26_S0), (.int vi2), (.int (1 : Int32)), (.ref b29)]))
      refine own_go (fun t_ k => XS.iload X67.here hx rfl (hb hby at_254) rfl k) ?_
      show WP p e below _ (T67.setTop (mkF m 256 #[.val (.int p1), .val (.int p2), .val (.int p3), .val (.int p4), .val (.int vi1), .val (.int vi2), .val (.ref b3), .val (.int vi24), .val (.int z26_S0), .val (.int vi28), .val (.ref b29), .val (.int vi63)] [(.int vi1), (.int z26_S0), (.int vi2), (.int (1 : Int32)), (.ref b29)]))
      refine own_go (fun t_ k => XS.iload X67.here hx rfl (hb hby at_256) rfl k) ?_
      show WP p e below _ (T67.setTop (mkF m 258 #[.val (.int p1), .val (.int p2), .val (.int p3), .val (.int p4), .val (.int vi1), .val (.int vi2), .val (.ref b3), .val (.int vi24), .val (.int z26_S0), .val (.int vi28), .val (.ref b29), .val (.int vi63)] [(.int vi28), (.int vi1), (.int z26_S0), (.int vi2), (.int (1 : Int32)), (.ref b29)]))
      refine own_go (fun t_ k => XS.aload X67.here hx rfl (hb hby at_258) rfl rfl k) ?_
      show WP p e below _ (T67.setTop (mkF m 260 #[.val (.int p1), .val (.int p2), .val (.int p3), .val (.int p4), .val (.int vi1), .val (.int vi2), .val (.ref b3), .val (.int vi24), .val (.int z26_S0), .val (.int vi28), .val (.ref b29), .val (.int vi63)] [(.ref b3), (.int vi28), (.int vi1), (.int z26_S0), (.int vi2), (.int (1 : Int32)), (.ref b29)]))
      obtain ⟨_, T69, Lc69, X69, hQ69, st69⟩ := own_un X67 0 0 (Jvm.LawKit.callS X67 hx (y := (⟨"com/example/bittern/bittern/DigitsPutPinLaw", "at", "([BIIIIB[I)Z"⟩ : MethodName)) hown (mvT hZ (hw _ (List.mem_of_getElem? (i := 16) rfl))) (mvT hZ (hw _ (List.mem_of_getElem? (i := 17) rfl))) (mvT hZ (hw _ (List.mem_of_getElem? (i := 18) rfl))) (mvT hZ (hw _ (List.mem_of_getElem? (i := 19) rfl))) (by decide) (backOf (W := 0) (rm2 l Z a0 hw [] b29 (1 : Int32) vi2 z26_S0 vi1 vi28 b3 k29 k3 (putL P [(vi28.toInt8.toInt32), (vi28.toInt8.toInt32), (vi28.toInt8.toInt32), (vi28.toInt8.toInt32), (vi28.toInt8.toInt32), (vi28.toInt8.toInt32), (vi28.toInt8.toInt32), (vi28.toInt8.toInt32), (vi28.toInt8.toInt32), (vi28.toInt8.toInt32), (vi28.toInt8.toInt32), (vi28.toInt8.toInt32), (vi28.toInt8.toInt32), (vi28.toInt8.toInt32), (vi28.toInt8.toInt32), (vi28.toInt8.toInt32)] z26_S0.toInt.toNat M) T62.heap n0 Vp62 ((((((((((((((((((V23.ext E29).other W31 ne_b3_b29).other W33 ne_b3_b29).other W35 ne_b3_b29).other W37 ne_b3_b29).other W39 ne_b3_b29).other W41 ne_b3_b29).other W43 ne_b3_b29).other W45 ne_b3_b29).other W47 ne_b3_b29).other W49 ne_b3_b29).other W51 ne_b3_b29).other W53 ne_b3_b29).other W55 ne_b3_b29).other W57 ne_b3_b29).other W59 ne_b3_b29).other W61 ne_b3_b29).keep K62c (ninS ne_b3_b29 nin0)) (by decide) (own_A hspec hP hM hP3 hM5 (1 : Int32) (by decide) (by decide)) (own_C hspec hP hM hP3 hM5 (own_num he24 hz26_S0) (1 : Int32) (by decide) (by decide))) hZ (hw _ (List.mem_of_getElem? (i := 19) rfl)) (hw _ (List.mem_of_getElem? (i := 18) rfl)) (by decide) (by decide)) (g := (mkF m 260 #[.val (.int p1), .val (.int p2), .val (.int p3), .val (.int p4), .val (.int vi1), .val (.int vi2), .val (.ref b3), .val (.int vi24), .val (.int z26_S0), .val (.int vi28), .val (.ref b29), .val (.int vi63)] [(.ref b3), (.int vi28), (.int vi1), (.int z26_S0), (.int vi2), (.int (1 : Int32)), (.ref b29)])) rfl (by rw [hml]; rfl) (argsL := [(.ref b29), (.int (1 : Int32)), (.int vi2), (.int z26_S0), (.int vi1), (.int vi28), (.ref b3)]) (rest := []) (lenOf pd_1 rfl) rfl (by show 2 * 0 + _ ≤ _; exact Nat.le_of_eq rfl) (hb hby at_260) (fun _ _ => ⟨rfl, e67, (by decide : 2 + 0 ≤ _), (by decide : 26 + 0 ≤ _)⟩))
      dsimp only [Pt.U] at st69
      obtain ⟨rfl, N69q, e69⟩ := hQ69
      have N69 := Fr.app N67 N69q
      replace X69 : Stand p l e room_1 s m _ below meth c T69 _ 2 26 := X69
      refine own_go st69 ?_
      show WP p e below _ (T69.setTop (mkF m 263 #[.val (.int p1), .val (.int p2), .val (.int p3), .val (.int p4), .val (.int vi1), .val (.int vi2), .val (.ref b3), .val (.int vi24), .val (.int z26_S0), .val (.int vi28), .val (.ref b29), .val (.int vi63)] [(.int (1 : Int32))]))
      have hc263_70 : ¬ ((1 : Int32) = (0 : Int32)) := by decide
      refine own_go (fun t_ k => XS.ifNo X69.here hx rfl (hb hby at_263) rfl ((if0 _ _).trans (feq hc263_70).1) k) ?_
      show WP p e below _ (T69.setTop (mkF m 266 #[.val (.int p1), .val (.int p2), .val (.int p3), .val (.int p4), .val (.int vi1), .val (.int vi2), .val (.ref b3), .val (.int vi24), .val (.int z26_S0), .val (.int vi28), .val (.ref b29), .val (.int vi63)] []))
      refine own_go (fun t_ k => XS.aload X69.here hx rfl (hb hby at_266) rfl rfl k) ?_
      show WP p e below _ (T69.setTop (mkF m 268 #[.val (.int p1), .val (.int p2), .val (.int p3), .val (.int p4), .val (.int vi1), .val (.int vi2), .val (.ref b3), .val (.int vi24), .val (.int z26_S0), .val (.int vi28), .val (.ref b29), .val (.int vi63)] [(.ref b29)]))
      refine own_go (fun t_ k => XS.iconst X69.here hx rfl (hb hby at_268) k) ?_
      show WP p e below _ (T69.setTop (mkF m 269 #[.val (.int p1), .val (.int p2), .val (.int p3), .val (.int p4), .val (.int vi1), .val (.int vi2), .val (.ref b3), .val (.int vi24), .val (.int z26_S0), .val (.int vi28), .val (.ref b29), .val (.int vi63)] [(.int (2 : Int32)), (.ref b29)]))
      refine own_go (fun t_ k => XS.iload X69.here hx rfl (hb hby at_269) rfl k) ?_
      show WP p e below _ (T69.setTop (mkF m 271 #[.val (.int p1), .val (.int p2), .val (.int p3), .val (.int p4), .val (.int vi1), .val (.int vi2), .val (.ref b3), .val (.int vi24), .val (.int z26_S0), .val (.int vi28), .val (.ref b29), .val (.int vi63)] [(.int vi2), (.int (2 : Int32)), (.ref b29)]))
      refine own_go (fun t_ k => XS.iload X69.here hx rfl (hb hby at_271) rfl k) ?_
      show WP p e below _ (T69.setTop (mkF m 273 #[.val (.int p1), .val (.int p2), .val (.int p3), .val (.int p4), .val (.int vi1), .val (.int vi2), .val (.ref b3), .val (.int vi24), .val (.int z26_S0), .val (.int vi28), .val (.ref b29), .val (.int vi63)] [(.int z26_S0), (.int vi2), (.int (2 : Int32)), (.ref b29)]))
      refine own_go (fun t_ k => XS.iload X69.here hx rfl (hb hby at_273) rfl k) ?_
      show WP p e below _ (T69.setTop (mkF m 275 #[.val (.int p1), .val (.int p2), .val (.int p3), .val (.int p4), .val (.int vi1), .val (.int vi2), .val (.ref b3), .val (.int vi24), .val (.int z26_S0), .val (.int vi28), .val (.ref b29), .val (.int vi63)] [(.int vi1), (.int z26_S0), (.int vi2), (.int (2 : Int32)), (.ref b29)]))
      refine own_go (fun t_ k => XS.iload X69.here hx rfl (hb hby at_275) rfl k) ?_
      show WP p e below _ (T69.setTop (mkF m 277 #[.val (.int p1), .val (.int p2), .val (.int p3), .val (.int p4), .val (.int vi1), .val (.int vi2), .val (.ref b3), .val (.int vi24), .val (.int z26_S0), .val (.int vi28), .val (.ref b29), .val (.int vi63)] [(.int vi28), (.int vi1), (.int z26_S0), (.int vi2), (.int (2 : Int32)), (.ref b29)]))
      refine own_go (fun t_ k => XS.aload X69.here hx rfl (hb hby at_277) rfl rfl k) ?_
      show WP p e below _ (T69.setTop (mkF m 279 #[.val (.int p1), .val (.int p2), .val (.int p3), .val (.int p4), .val (.int vi1), .val (.int vi2), .val (.ref b3), .val (.int vi24), .val (.int z26_S0), .val (.int vi28), .val (.ref b29), .val (.int vi63)] [(.ref b3), (.int vi28), (.int vi1), (.int z26_S0), (.int vi2), (.int (2 : Int32)), (.ref b29)]))
      obtain ⟨_, T71, Lc71, X71, hQ71, st71⟩ := own_un X69 0 0 (Jvm.LawKit.callS X69 hx (y := (⟨"com/example/bittern/bittern/DigitsPutPinLaw", "at", "([BIIIIB[I)Z"⟩ : MethodName)) hown (mvT hZ (hw _ (List.mem_of_getElem? (i := 16) rfl))) (mvT hZ (hw _ (List.mem_of_getElem? (i := 17) rfl))) (mvT hZ (hw _ (List.mem_of_getElem? (i := 18) rfl))) (mvT hZ (hw _ (List.mem_of_getElem? (i := 19) rfl))) (by decide) (backOf (W := 0) (rm2 l Z a0 hw [] b29 (2 : Int32) vi2 z26_S0 vi1 vi28 b3 k29 k3 (putL P [(vi28.toInt8.toInt32), (vi28.toInt8.toInt32), (vi28.toInt8.toInt32), (vi28.toInt8.toInt32), (vi28.toInt8.toInt32), (vi28.toInt8.toInt32), (vi28.toInt8.toInt32), (vi28.toInt8.toInt32), (vi28.toInt8.toInt32), (vi28.toInt8.toInt32), (vi28.toInt8.toInt32), (vi28.toInt8.toInt32), (vi28.toInt8.toInt32), (vi28.toInt8.toInt32), (vi28.toInt8.toInt32), (vi28.toInt8.toInt32)] z26_S0.toInt.toNat M) T62.heap n0 Vp62 ((((((((((((((((((V23.ext E29).other W31 ne_b3_b29).other W33 ne_b3_b29).other W35 ne_b3_b29).other W37 ne_b3_b29).other W39 ne_b3_b29).other W41 ne_b3_b29).other W43 ne_b3_b29).other W45 ne_b3_b29).other W47 ne_b3_b29).other W49 ne_b3_b29).other W51 ne_b3_b29).other W53 ne_b3_b29).other W55 ne_b3_b29).other W57 ne_b3_b29).other W59 ne_b3_b29).other W61 ne_b3_b29).keep K62c (ninS ne_b3_b29 nin0)) (by decide) (own_A hspec hP hM hP3 hM5 (2 : Int32) (by decide) (by decide)) (own_C hspec hP hM hP3 hM5 (own_num he24 hz26_S0) (2 : Int32) (by decide) (by decide))) hZ (hw _ (List.mem_of_getElem? (i := 19) rfl)) (hw _ (List.mem_of_getElem? (i := 18) rfl)) (by decide) (by decide)) (g := (mkF m 279 #[.val (.int p1), .val (.int p2), .val (.int p3), .val (.int p4), .val (.int vi1), .val (.int vi2), .val (.ref b3), .val (.int vi24), .val (.int z26_S0), .val (.int vi28), .val (.ref b29), .val (.int vi63)] [(.ref b3), (.int vi28), (.int vi1), (.int z26_S0), (.int vi2), (.int (2 : Int32)), (.ref b29)])) rfl (by rw [hml]; rfl) (argsL := [(.ref b29), (.int (2 : Int32)), (.int vi2), (.int z26_S0), (.int vi1), (.int vi28), (.ref b3)]) (rest := []) (lenOf pd_1 rfl) rfl (by show 2 * 0 + _ ≤ _; exact Nat.le_of_eq rfl) (hb hby at_279) (fun _ _ => ⟨rfl, e69, (by decide : 2 + 0 ≤ _), (by decide : 26 + 0 ≤ _)⟩))
      dsimp only [Pt.U] at st71
      obtain ⟨rfl, N71q, e71⟩ := hQ71
      have N71 := Fr.app N69 N71q
      replace X71 : Stand p l e room_1 s m _ below meth c T71 _ 2 26 := X71
      refine own_go st71 ?_
      show WP p e below _ (T71.setTop (mkF m 282 #[.val (.int p1), .val (.int p2), .val (.int p3), .val (.int p4), .val (.int vi1), .val (.int vi2), .val (.ref b3), .val (.int vi24), .val (.int z26_S0), .val (.int vi28), .val (.ref b29), .val (.int vi63)] [(.int (1 : Int32))]))
      have hc282_72 : ¬ ((1 : Int32) = (0 : Int32)) := by decide
      refine own_go (fun t_ k => XS.ifNo X71.here hx rfl (hb hby at_282) rfl ((if0 _ _).trans (feq hc282_72).1) k) ?_
      show WP p e below _ (T71.setTop (mkF m 285 #[.val (.int p1), .val (.int p2), .val (.int p3), .val (.int p4), .val (.int vi1), .val (.int vi2), .val (.ref b3), .val (.int vi24), .val (.int z26_S0), .val (.int vi28), .val (.ref b29), .val (.int vi63)] []))
      refine own_go (fun t_ k => XS.aload X71.here hx rfl (hb hby at_285) rfl rfl k) ?_
      show WP p e below _ (T71.setTop (mkF m 287 #[.val (.int p1), .val (.int p2), .val (.int p3), .val (.int p4), .val (.int vi1), .val (.int vi2), .val (.ref b3), .val (.int vi24), .val (.int z26_S0), .val (.int vi28), .val (.ref b29), .val (.int vi63)] [(.ref b29)]))
      refine own_go (fun t_ k => XS.iconst X71.here hx rfl (hb hby at_287) k) ?_
      show WP p e below _ (T71.setTop (mkF m 288 #[.val (.int p1), .val (.int p2), .val (.int p3), .val (.int p4), .val (.int vi1), .val (.int vi2), .val (.ref b3), .val (.int vi24), .val (.int z26_S0), .val (.int vi28), .val (.ref b29), .val (.int vi63)] [(.int (3 : Int32)), (.ref b29)]))
      refine own_go (fun t_ k => XS.iload X71.here hx rfl (hb hby at_288) rfl k) ?_
      show WP p e below _ (T71.setTop (mkF m 290 #[.val (.int p1), .val (.int p2), .val (.int p3), .val (.int p4), .val (.int vi1), .val (.int vi2), .val (.ref b3), .val (.int vi24), .val (.int z26_S0), .val (.int vi28), .val (.ref b29), .val (.int vi63)] [(.int vi2), (.int (3 : Int32)), (.ref b29)]))
      refine own_go (fun t_ k => XS.iload X71.here hx rfl (hb hby at_290) rfl k) ?_
      show WP p e below _ (T71.setTop (mkF m 292 #[.val (.int p1), .val (.int p2), .val (.int p3), .val (.int p4), .val (.int vi1), .val (.int vi2), .val (.ref b3), .val (.int vi24), .val (.int z26_S0), .val (.int vi28), .val (.ref b29), .val (.int vi63)] [(.int z26_S0), (.int vi2), (.int (3 : Int32)), (.ref b29)]))
      refine own_go (fun t_ k => XS.iload X71.here hx rfl (hb hby at_292) rfl k) ?_
      show WP p e below _ (T71.setTop (mkF m 294 #[.val (.int p1), .val (.int p2), .val (.int p3), .val (.int p4), .val (.int vi1), .val (.int vi2), .val (.ref b3), .val (.int vi24), .val (.int z26_S0), .val (.int vi28), .val (.ref b29), .val (.int vi63)] [(.int vi1), (.int z26_S0), (.int vi2), (.int (3 : Int32)), (.ref b29)]))
      refine own_go (fun t_ k => XS.iload X71.here hx rfl (hb hby at_294) rfl k) ?_
      show WP p e below _ (T71.setTop (mkF m 296 #[.val (.int p1), .val (.int p2), .val (.int p3), .val (.int p4), .val (.int vi1), .val (.int vi2), .val (.ref b3), .val (.int vi24), .val (.int z26_S0), .val (.int vi28), .val (.ref b29), .val (.int vi63)] [(.int vi28), (.int vi1), (.int z26_S0), (.int vi2), (.int (3 : Int32)), (.ref b29)]))
      refine own_go (fun t_ k => XS.aload X71.here hx rfl (hb hby at_296) rfl rfl k) ?_
      show WP p e below _ (T71.setTop (mkF m 298 #[.val (.int p1), .val (.int p2), .val (.int p3), .val (.int p4), .val (.int vi1), .val (.int vi2), .val (.ref b3), .val (.int vi24), .val (.int z26_S0), .val (.int vi28), .val (.ref b29), .val (.int vi63)] [(.ref b3), (.int vi28), (.int vi1), (.int z26_S0), (.int vi2), (.int (3 : Int32)), (.ref b29)]))
      obtain ⟨_, T73, Lc73, X73, hQ73, st73⟩ := own_un X71 0 0 (Jvm.LawKit.callS X71 hx (y := (⟨"com/example/bittern/bittern/DigitsPutPinLaw", "at", "([BIIIIB[I)Z"⟩ : MethodName)) hown (mvT hZ (hw _ (List.mem_of_getElem? (i := 16) rfl))) (mvT hZ (hw _ (List.mem_of_getElem? (i := 17) rfl))) (mvT hZ (hw _ (List.mem_of_getElem? (i := 18) rfl))) (mvT hZ (hw _ (List.mem_of_getElem? (i := 19) rfl))) (by decide) (backOf (W := 0) (rm2 l Z a0 hw [] b29 (3 : Int32) vi2 z26_S0 vi1 vi28 b3 k29 k3 (putL P [(vi28.toInt8.toInt32), (vi28.toInt8.toInt32), (vi28.toInt8.toInt32), (vi28.toInt8.toInt32), (vi28.toInt8.toInt32), (vi28.toInt8.toInt32), (vi28.toInt8.toInt32), (vi28.toInt8.toInt32), (vi28.toInt8.toInt32), (vi28.toInt8.toInt32), (vi28.toInt8.toInt32), (vi28.toInt8.toInt32), (vi28.toInt8.toInt32), (vi28.toInt8.toInt32), (vi28.toInt8.toInt32), (vi28.toInt8.toInt32)] z26_S0.toInt.toNat M) T62.heap n0 Vp62 ((((((((((((((((((V23.ext E29).other W31 ne_b3_b29).other W33 ne_b3_b29).other W35 ne_b3_b29).other W37 ne_b3_b29).other W39 ne_b3_b29).other W41 ne_b3_b29).other W43 ne_b3_b29).other W45 ne_b3_b29).other W47 ne_b3_b29).other W49 ne_b3_b29).other W51 ne_b3_b29).other W53 ne_b3_b29).other W55 ne_b3_b29).other W57 ne_b3_b29).other W59 ne_b3_b29).other W61 ne_b3_b29).keep K62c (ninS ne_b3_b29 nin0)) (by decide) (own_A hspec hP hM hP3 hM5 (3 : Int32) (by decide) (by decide)) (own_C hspec hP hM hP3 hM5 (own_num he24 hz26_S0) (3 : Int32) (by decide) (by decide))) hZ (hw _ (List.mem_of_getElem? (i := 19) rfl)) (hw _ (List.mem_of_getElem? (i := 18) rfl)) (by decide) (by decide)) (g := (mkF m 298 #[.val (.int p1), .val (.int p2), .val (.int p3), .val (.int p4), .val (.int vi1), .val (.int vi2), .val (.ref b3), .val (.int vi24), .val (.int z26_S0), .val (.int vi28), .val (.ref b29), .val (.int vi63)] [(.ref b3), (.int vi28), (.int vi1), (.int z26_S0), (.int vi2), (.int (3 : Int32)), (.ref b29)])) rfl (by rw [hml]; rfl) (argsL := [(.ref b29), (.int (3 : Int32)), (.int vi2), (.int z26_S0), (.int vi1), (.int vi28), (.ref b3)]) (rest := []) (lenOf pd_1 rfl) rfl (by show 2 * 0 + _ ≤ _; exact Nat.le_of_eq rfl) (hb hby at_298) (fun _ _ => ⟨rfl, e71, (by decide : 2 + 0 ≤ _), (by decide : 26 + 0 ≤ _)⟩))
      dsimp only [Pt.U] at st73
      obtain ⟨rfl, N73q, e73⟩ := hQ73
      have N73 := Fr.app N71 N73q
      replace X73 : Stand p l e room_1 s m _ below meth c T73 _ 2 26 := X73
      refine own_go st73 ?_
      show WP p e below _ (T73.setTop (mkF m 301 #[.val (.int p1), .val (.int p2), .val (.int p3), .val (.int p4), .val (.int vi1), .val (.int vi2), .val (.ref b3), .val (.int vi24), .val (.int z26_S0), .val (.int vi28), .val (.ref b29), .val (.int vi63)] [(.int (1 : Int32))]))
      have hc301_74 : ¬ ((1 : Int32) = (0 : Int32)) := by decide
      refine own_go (fun t_ k => XS.ifNo X73.here hx rfl (hb hby at_301) rfl ((if0 _ _).trans (feq hc301_74).1) k) ?_
      show WP p e below _ (T73.setTop (mkF m 304 #[.val (.int p1), .val (.int p2), .val (.int p3), .val (.int p4), .val (.int vi1), .val (.int vi2), .val (.ref b3), .val (.int vi24), .val (.int z26_S0), .val (.int vi28), .val (.ref b29), .val (.int vi63)] []))
      refine own_go (fun t_ k => XS.aload X73.here hx rfl (hb hby at_304) rfl rfl k) ?_
      show WP p e below _ (T73.setTop (mkF m 306 #[.val (.int p1), .val (.int p2), .val (.int p3), .val (.int p4), .val (.int vi1), .val (.int vi2), .val (.ref b3), .val (.int vi24), .val (.int z26_S0), .val (.int vi28), .val (.ref b29), .val (.int vi63)] [(.ref b29)]))
      refine own_go (fun t_ k => XS.iconst X73.here hx rfl (hb hby at_306) k) ?_
      show WP p e below _ (T73.setTop (mkF m 307 #[.val (.int p1), .val (.int p2), .val (.int p3), .val (.int p4), .val (.int vi1), .val (.int vi2), .val (.ref b3), .val (.int vi24), .val (.int z26_S0), .val (.int vi28), .val (.ref b29), .val (.int vi63)] [(.int (4 : Int32)), (.ref b29)]))
      refine own_go (fun t_ k => XS.iload X73.here hx rfl (hb hby at_307) rfl k) ?_
      show WP p e below _ (T73.setTop (mkF m 309 #[.val (.int p1), .val (.int p2), .val (.int p3), .val (.int p4), .val (.int vi1), .val (.int vi2), .val (.ref b3), .val (.int vi24), .val (.int z26_S0), .val (.int vi28), .val (.ref b29), .val (.int vi63)] [(.int vi2), (.int (4 : Int32)), (.ref b29)]))
      refine own_go (fun t_ k => XS.iload X73.here hx rfl (hb hby at_309) rfl k) ?_
      show WP p e below _ (T73.setTop (mkF m 311 #[.val (.int p1), .val (.int p2), .val (.int p3), .val (.int p4), .val (.int vi1), .val (.int vi2), .val (.ref b3), .val (.int vi24), .val (.int z26_S0), .val (.int vi28), .val (.ref b29), .val (.int vi63)] [(.int z26_S0), (.int vi2), (.int (4 : Int32)), (.ref b29)]))
      refine own_go (fun t_ k => XS.iload X73.here hx rfl (hb hby at_311) rfl k) ?_
      show WP p e below _ (T73.setTop (mkF m 313 #[.val (.int p1), .val (.int p2), .val (.int p3), .val (.int p4), .val (.int vi1), .val (.int vi2), .val (.ref b3), .val (.int vi24), .val (.int z26_S0), .val (.int vi28), .val (.ref b29), .val (.int vi63)] [(.int vi1), (.int z26_S0), (.int vi2), (.int (4 : Int32)), (.ref b29)]))
      refine own_go (fun t_ k => XS.iload X73.here hx rfl (hb hby at_313) rfl k) ?_
      show WP p e below _ (T73.setTop (mkF m 315 #[.val (.int p1), .val (.int p2), .val (.int p3), .val (.int p4), .val (.int vi1), .val (.int vi2), .val (.ref b3), .val (.int vi24), .val (.int z26_S0), .val (.int vi28), .val (.ref b29), .val (.int vi63)] [(.int vi28), (.int vi1), (.int z26_S0), (.int vi2), (.int (4 : Int32)), (.ref b29)]))
      refine own_go (fun t_ k => XS.aload X73.here hx rfl (hb hby at_315) rfl rfl k) ?_
      show WP p e below _ (T73.setTop (mkF m 317 #[.val (.int p1), .val (.int p2), .val (.int p3), .val (.int p4), .val (.int vi1), .val (.int vi2), .val (.ref b3), .val (.int vi24), .val (.int z26_S0), .val (.int vi28), .val (.ref b29), .val (.int vi63)] [(.ref b3), (.int vi28), (.int vi1), (.int z26_S0), (.int vi2), (.int (4 : Int32)), (.ref b29)]))
      obtain ⟨_, T75, Lc75, X75, hQ75, st75⟩ := own_un X73 0 0 (Jvm.LawKit.callS X73 hx (y := (⟨"com/example/bittern/bittern/DigitsPutPinLaw", "at", "([BIIIIB[I)Z"⟩ : MethodName)) hown (mvT hZ (hw _ (List.mem_of_getElem? (i := 16) rfl))) (mvT hZ (hw _ (List.mem_of_getElem? (i := 17) rfl))) (mvT hZ (hw _ (List.mem_of_getElem? (i := 18) rfl))) (mvT hZ (hw _ (List.mem_of_getElem? (i := 19) rfl))) (by decide) (backOf (W := 0) (rm2 l Z a0 hw [] b29 (4 : Int32) vi2 z26_S0 vi1 vi28 b3 k29 k3 (putL P [(vi28.toInt8.toInt32), (vi28.toInt8.toInt32), (vi28.toInt8.toInt32), (vi28.toInt8.toInt32), (vi28.toInt8.toInt32), (vi28.toInt8.toInt32), (vi28.toInt8.toInt32), (vi28.toInt8.toInt32), (vi28.toInt8.toInt32), (vi28.toInt8.toInt32), (vi28.toInt8.toInt32), (vi28.toInt8.toInt32), (vi28.toInt8.toInt32), (vi28.toInt8.toInt32), (vi28.toInt8.toInt32), (vi28.toInt8.toInt32)] z26_S0.toInt.toNat M) T62.heap n0 Vp62 ((((((((((((((((((V23.ext E29).other W31 ne_b3_b29).other W33 ne_b3_b29).other W35 ne_b3_b29).other W37 ne_b3_b29).other W39 ne_b3_b29).other W41 ne_b3_b29).other W43 ne_b3_b29).other W45 ne_b3_b29).other W47 ne_b3_b29).other W49 ne_b3_b29).other W51 ne_b3_b29).other W53 ne_b3_b29).other W55 ne_b3_b29).other W57 ne_b3_b29).other W59 ne_b3_b29).other W61 ne_b3_b29).keep K62c (ninS ne_b3_b29 nin0)) (by decide) (own_A hspec hP hM hP3 hM5 (4 : Int32) (by decide) (by decide)) (own_C hspec hP hM hP3 hM5 (own_num he24 hz26_S0) (4 : Int32) (by decide) (by decide))) hZ (hw _ (List.mem_of_getElem? (i := 19) rfl)) (hw _ (List.mem_of_getElem? (i := 18) rfl)) (by decide) (by decide)) (g := (mkF m 317 #[.val (.int p1), .val (.int p2), .val (.int p3), .val (.int p4), .val (.int vi1), .val (.int vi2), .val (.ref b3), .val (.int vi24), .val (.int z26_S0), .val (.int vi28), .val (.ref b29), .val (.int vi63)] [(.ref b3), (.int vi28), (.int vi1), (.int z26_S0), (.int vi2), (.int (4 : Int32)), (.ref b29)])) rfl (by rw [hml]; rfl) (argsL := [(.ref b29), (.int (4 : Int32)), (.int vi2), (.int z26_S0), (.int vi1), (.int vi28), (.ref b3)]) (rest := []) (lenOf pd_1 rfl) rfl (by show 2 * 0 + _ ≤ _; exact Nat.le_of_eq rfl) (hb hby at_317) (fun _ _ => ⟨rfl, e73, (by decide : 2 + 0 ≤ _), (by decide : 26 + 0 ≤ _)⟩))
      dsimp only [Pt.U] at st75
      obtain ⟨rfl, N75q, e75⟩ := hQ75
      have N75 := Fr.app N73 N75q
      replace X75 : Stand p l e room_1 s m _ below meth c T75 _ 2 26 := X75
      refine own_go st75 ?_
      show WP p e below _ (T75.setTop (mkF m 320 #[.val (.int p1), .val (.int p2), .val (.int p3), .val (.int p4), .val (.int vi1), .val (.int vi2), .val (.ref b3), .val (.int vi24), .val (.int z26_S0), .val (.int vi28), .val (.ref b29), .val (.int vi63)] [(.int (1 : Int32))]))
      have hc320_76 : ¬ ((1 : Int32) = (0 : Int32)) := by decide
      refine own_go (fun t_ k => XS.ifNo X75.here hx rfl (hb hby at_320) rfl ((if0 _ _).trans (feq hc320_76).1) k) ?_
      show WP p e below _ (T75.setTop (mkF m 323 #[.val (.int p1), .val (.int p2), .val (.int p3), .val (.int p4), .val (.int vi1), .val (.int vi2), .val (.ref b3), .val (.int vi24), .val (.int z26_S0), .val (.int vi28), .val (.ref b29), .val (.int vi63)] []))
      refine own_go (fun t_ k => XS.aload X75.here hx rfl (hb hby at_323) rfl rfl k) ?_
      show WP p e below _ (T75.setTop (mkF m 325 #[.val (.int p1), .val (.int p2), .val (.int p3), .val (.int p4), .val (.int vi1), .val (.int vi2), .val (.ref b3), .val (.int vi24), .val (.int z26_S0), .val (.int vi28), .val (.ref b29), .val (.int vi63)] [(.ref b29)]))
      refine own_go (fun t_ k => XS.iconst X75.here hx rfl (hb hby at_325) k) ?_
      show WP p e below _ (T75.setTop (mkF m 326 #[.val (.int p1), .val (.int p2), .val (.int p3), .val (.int p4), .val (.int vi1), .val (.int vi2), .val (.ref b3), .val (.int vi24), .val (.int z26_S0), .val (.int vi28), .val (.ref b29), .val (.int vi63)] [(.int (5 : Int32)), (.ref b29)]))
      refine own_go (fun t_ k => XS.iload X75.here hx rfl (hb hby at_326) rfl k) ?_
      show WP p e below _ (T75.setTop (mkF m 328 #[.val (.int p1), .val (.int p2), .val (.int p3), .val (.int p4), .val (.int vi1), .val (.int vi2), .val (.ref b3), .val (.int vi24), .val (.int z26_S0), .val (.int vi28), .val (.ref b29), .val (.int vi63)] [(.int vi2), (.int (5 : Int32)), (.ref b29)]))
      refine own_go (fun t_ k => XS.iload X75.here hx rfl (hb hby at_328) rfl k) ?_
      show WP p e below _ (T75.setTop (mkF m 330 #[.val (.int p1), .val (.int p2), .val (.int p3), .val (.int p4), .val (.int vi1), .val (.int vi2), .val (.ref b3), .val (.int vi24), .val (.int z26_S0), .val (.int vi28), .val (.ref b29), .val (.int vi63)] [(.int z26_S0), (.int vi2), (.int (5 : Int32)), (.ref b29)]))
      refine own_go (fun t_ k => XS.iload X75.here hx rfl (hb hby at_330) rfl k) ?_
      show WP p e below _ (T75.setTop (mkF m 332 #[.val (.int p1), .val (.int p2), .val (.int p3), .val (.int p4), .val (.int vi1), .val (.int vi2), .val (.ref b3), .val (.int vi24), .val (.int z26_S0), .val (.int vi28), .val (.ref b29), .val (.int vi63)] [(.int vi1), (.int z26_S0), (.int vi2), (.int (5 : Int32)), (.ref b29)]))
      refine own_go (fun t_ k => XS.iload X75.here hx rfl (hb hby at_332) rfl k) ?_
      show WP p e below _ (T75.setTop (mkF m 334 #[.val (.int p1), .val (.int p2), .val (.int p3), .val (.int p4), .val (.int vi1), .val (.int vi2), .val (.ref b3), .val (.int vi24), .val (.int z26_S0), .val (.int vi28), .val (.ref b29), .val (.int vi63)] [(.int vi28), (.int vi1), (.int z26_S0), (.int vi2), (.int (5 : Int32)), (.ref b29)]))
      refine own_go (fun t_ k => XS.aload X75.here hx rfl (hb hby at_334) rfl rfl k) ?_
      show WP p e below _ (T75.setTop (mkF m 336 #[.val (.int p1), .val (.int p2), .val (.int p3), .val (.int p4), .val (.int vi1), .val (.int vi2), .val (.ref b3), .val (.int vi24), .val (.int z26_S0), .val (.int vi28), .val (.ref b29), .val (.int vi63)] [(.ref b3), (.int vi28), (.int vi1), (.int z26_S0), (.int vi2), (.int (5 : Int32)), (.ref b29)]))
      obtain ⟨_, T77, Lc77, X77, hQ77, st77⟩ := own_un X75 0 0 (Jvm.LawKit.callS X75 hx (y := (⟨"com/example/bittern/bittern/DigitsPutPinLaw", "at", "([BIIIIB[I)Z"⟩ : MethodName)) hown (mvT hZ (hw _ (List.mem_of_getElem? (i := 16) rfl))) (mvT hZ (hw _ (List.mem_of_getElem? (i := 17) rfl))) (mvT hZ (hw _ (List.mem_of_getElem? (i := 18) rfl))) (mvT hZ (hw _ (List.mem_of_getElem? (i := 19) rfl))) (by decide) (backOf (W := 0) (rm2 l Z a0 hw [] b29 (5 : Int32) vi2 z26_S0 vi1 vi28 b3 k29 k3 (putL P [(vi28.toInt8.toInt32), (vi28.toInt8.toInt32), (vi28.toInt8.toInt32), (vi28.toInt8.toInt32), (vi28.toInt8.toInt32), (vi28.toInt8.toInt32), (vi28.toInt8.toInt32), (vi28.toInt8.toInt32), (vi28.toInt8.toInt32), (vi28.toInt8.toInt32), (vi28.toInt8.toInt32), (vi28.toInt8.toInt32), (vi28.toInt8.toInt32), (vi28.toInt8.toInt32), (vi28.toInt8.toInt32), (vi28.toInt8.toInt32)] z26_S0.toInt.toNat M) T62.heap n0 Vp62 ((((((((((((((((((V23.ext E29).other W31 ne_b3_b29).other W33 ne_b3_b29).other W35 ne_b3_b29).other W37 ne_b3_b29).other W39 ne_b3_b29).other W41 ne_b3_b29).other W43 ne_b3_b29).other W45 ne_b3_b29).other W47 ne_b3_b29).other W49 ne_b3_b29).other W51 ne_b3_b29).other W53 ne_b3_b29).other W55 ne_b3_b29).other W57 ne_b3_b29).other W59 ne_b3_b29).other W61 ne_b3_b29).keep K62c (ninS ne_b3_b29 nin0)) (by decide) (own_A hspec hP hM hP3 hM5 (5 : Int32) (by decide) (by decide)) (own_C hspec hP hM hP3 hM5 (own_num he24 hz26_S0) (5 : Int32) (by decide) (by decide))) hZ (hw _ (List.mem_of_getElem? (i := 19) rfl)) (hw _ (List.mem_of_getElem? (i := 18) rfl)) (by decide) (by decide)) (g := (mkF m 336 #[.val (.int p1), .val (.int p2), .val (.int p3), .val (.int p4), .val (.int vi1), .val (.int vi2), .val (.ref b3), .val (.int vi24), .val (.int z26_S0), .val (.int vi28), .val (.ref b29), .val (.int vi63)] [(.ref b3), (.int vi28), (.int vi1), (.int z26_S0), (.int vi2), (.int (5 : Int32)), (.ref b29)])) rfl (by rw [hml]; rfl) (argsL := [(.ref b29), (.int (5 : Int32)), (.int vi2), (.int z26_S0), (.int vi1), (.int vi28), (.ref b3)]) (rest := []) (lenOf pd_1 rfl) rfl (by show 2 * 0 + _ ≤ _; exact Nat.le_of_eq rfl) (hb hby at_336) (fun _ _ => ⟨rfl, e75, (by decide : 2 + 0 ≤ _), (by decide : 26 + 0 ≤ _)⟩))
      dsimp only [Pt.U] at st77
      obtain ⟨rfl, N77q, e77⟩ := hQ77
      have N77 := Fr.app N75 N77q
      replace X77 : Stand p l e room_1 s m _ below meth c T77 _ 2 26 := X77
      refine own_go st77 ?_
      show WP p e below _ (T77.setTop (mkF m 339 #[.val (.int p1), .val (.int p2), .val (.int p3), .val (.int p4), .val (.int vi1), .val (.int vi2), .val (.ref b3), .val (.int vi24), .val (.int z26_S0), .val (.int vi28), .val (.ref b29), .val (.int vi63)] [(.int (1 : Int32))]))
      have hc339_78 : ¬ ((1 : Int32) = (0 : Int32)) := by decide
      refine own_go (fun t_ k => XS.ifNo X77.here hx rfl (hb hby at_339) rfl ((if0 _ _).trans (feq hc339_78).1) k) ?_
      show WP p e below _ (T77.setTop (mkF m 342 #[.val (.int p1), .val (.int p2), .val (.int p3), .val (.int p4), .val (.int vi1), .val (.int vi2), .val (.ref b3), .val (.int vi24), .val (.int z26_S0), .val (.int vi28), .val (.ref b29), .val (.int vi63)] []))
      refine own_go (fun t_ k => XS.aload X77.here hx rfl (hb hby at_342) rfl rfl k) ?_
      show WP p e below _ (T77.setTop (mkF m 344 #[.val (.int p1), .val (.int p2), .val (.int p3), .val (.int p4), .val (.int vi1), .val (.int vi2), .val (.ref b3), .val (.int vi24), .val (.int z26_S0), .val (.int vi28), .val (.ref b29), .val (.int vi63)] [(.ref b29)]))
      refine own_go (fun t_ k => XS.bipush X77.here hx rfl (hb hby at_344) k) ?_
      show WP p e below _ (T77.setTop (mkF m 346 #[.val (.int p1), .val (.int p2), .val (.int p3), .val (.int p4), .val (.int vi1), .val (.int vi2), .val (.ref b3), .val (.int vi24), .val (.int z26_S0), .val (.int vi28), .val (.ref b29), .val (.int vi63)] [(.int (6 : Int32)), (.ref b29)]))
      refine own_go (fun t_ k => XS.iload X77.here hx rfl (hb hby at_346) rfl k) ?_
      show WP p e below _ (T77.setTop (mkF m 348 #[.val (.int p1), .val (.int p2), .val (.int p3), .val (.int p4), .val (.int vi1), .val (.int vi2), .val (.ref b3), .val (.int vi24), .val (.int z26_S0), .val (.int vi28), .val (.ref b29), .val (.int vi63)] [(.int vi2), (.int (6 : Int32)), (.ref b29)]))
      refine own_go (fun t_ k => XS.iload X77.here hx rfl (hb hby at_348) rfl k) ?_
      show WP p e below _ (T77.setTop (mkF m 350 #[.val (.int p1), .val (.int p2), .val (.int p3), .val (.int p4), .val (.int vi1), .val (.int vi2), .val (.ref b3), .val (.int vi24), .val (.int z26_S0), .val (.int vi28), .val (.ref b29), .val (.int vi63)] [(.int z26_S0), (.int vi2), (.int (6 : Int32)), (.ref b29)]))
      refine own_go (fun t_ k => XS.iload X77.here hx rfl (hb hby at_350) rfl k) ?_
      show WP p e below _ (T77.setTop (mkF m 352 #[.val (.int p1), .val (.int p2), .val (.int p3), .val (.int p4), .val (.int vi1), .val (.int vi2), .val (.ref b3), .val (.int vi24), .val (.int z26_S0), .val (.int vi28), .val (.ref b29), .val (.int vi63)] [(.int vi1), (.int z26_S0), (.int vi2), (.int (6 : Int32)), (.ref b29)]))
      refine own_go (fun t_ k => XS.iload X77.here hx rfl (hb hby at_352) rfl k) ?_
      show WP p e below _ (T77.setTop (mkF m 354 #[.val (.int p1), .val (.int p2), .val (.int p3), .val (.int p4), .val (.int vi1), .val (.int vi2), .val (.ref b3), .val (.int vi24), .val (.int z26_S0), .val (.int vi28), .val (.ref b29), .val (.int vi63)] [(.int vi28), (.int vi1), (.int z26_S0), (.int vi2), (.int (6 : Int32)), (.ref b29)]))
      refine own_go (fun t_ k => XS.aload X77.here hx rfl (hb hby at_354) rfl rfl k) ?_
      show WP p e below _ (T77.setTop (mkF m 356 #[.val (.int p1), .val (.int p2), .val (.int p3), .val (.int p4), .val (.int vi1), .val (.int vi2), .val (.ref b3), .val (.int vi24), .val (.int z26_S0), .val (.int vi28), .val (.ref b29), .val (.int vi63)] [(.ref b3), (.int vi28), (.int vi1), (.int z26_S0), (.int vi2), (.int (6 : Int32)), (.ref b29)]))
      obtain ⟨_, T79, Lc79, X79, hQ79, st79⟩ := own_un X77 0 0 (Jvm.LawKit.callS X77 hx (y := (⟨"com/example/bittern/bittern/DigitsPutPinLaw", "at", "([BIIIIB[I)Z"⟩ : MethodName)) hown (mvT hZ (hw _ (List.mem_of_getElem? (i := 16) rfl))) (mvT hZ (hw _ (List.mem_of_getElem? (i := 17) rfl))) (mvT hZ (hw _ (List.mem_of_getElem? (i := 18) rfl))) (mvT hZ (hw _ (List.mem_of_getElem? (i := 19) rfl))) (by decide) (backOf (W := 0) (rm2 l Z a0 hw [] b29 (6 : Int32) vi2 z26_S0 vi1 vi28 b3 k29 k3 (putL P [(vi28.toInt8.toInt32), (vi28.toInt8.toInt32), (vi28.toInt8.toInt32), (vi28.toInt8.toInt32), (vi28.toInt8.toInt32), (vi28.toInt8.toInt32), (vi28.toInt8.toInt32), (vi28.toInt8.toInt32), (vi28.toInt8.toInt32), (vi28.toInt8.toInt32), (vi28.toInt8.toInt32), (vi28.toInt8.toInt32), (vi28.toInt8.toInt32), (vi28.toInt8.toInt32), (vi28.toInt8.toInt32), (vi28.toInt8.toInt32)] z26_S0.toInt.toNat M) T62.heap n0 Vp62 ((((((((((((((((((V23.ext E29).other W31 ne_b3_b29).other W33 ne_b3_b29).other W35 ne_b3_b29).other W37 ne_b3_b29).other W39 ne_b3_b29).other W41 ne_b3_b29).other W43 ne_b3_b29).other W45 ne_b3_b29).other W47 ne_b3_b29).other W49 ne_b3_b29).other W51 ne_b3_b29).other W53 ne_b3_b29).other W55 ne_b3_b29).other W57 ne_b3_b29).other W59 ne_b3_b29).other W61 ne_b3_b29).keep K62c (ninS ne_b3_b29 nin0)) (by decide) (own_A hspec hP hM hP3 hM5 (6 : Int32) (by decide) (by decide)) (own_C hspec hP hM hP3 hM5 (own_num he24 hz26_S0) (6 : Int32) (by decide) (by decide))) hZ (hw _ (List.mem_of_getElem? (i := 19) rfl)) (hw _ (List.mem_of_getElem? (i := 18) rfl)) (by decide) (by decide)) (g := (mkF m 356 #[.val (.int p1), .val (.int p2), .val (.int p3), .val (.int p4), .val (.int vi1), .val (.int vi2), .val (.ref b3), .val (.int vi24), .val (.int z26_S0), .val (.int vi28), .val (.ref b29), .val (.int vi63)] [(.ref b3), (.int vi28), (.int vi1), (.int z26_S0), (.int vi2), (.int (6 : Int32)), (.ref b29)])) rfl (by rw [hml]; rfl) (argsL := [(.ref b29), (.int (6 : Int32)), (.int vi2), (.int z26_S0), (.int vi1), (.int vi28), (.ref b3)]) (rest := []) (lenOf pd_1 rfl) rfl (by show 2 * 0 + _ ≤ _; exact Nat.le_of_eq rfl) (hb hby at_356) (fun _ _ => ⟨rfl, e77, (by decide : 2 + 0 ≤ _), (by decide : 26 + 0 ≤ _)⟩))
      dsimp only [Pt.U] at st79
      obtain ⟨rfl, N79q, e79⟩ := hQ79
      have N79 := Fr.app N77 N79q
      replace X79 : Stand p l e room_1 s m _ below meth c T79 _ 2 26 := X79
      refine own_go st79 ?_
      show WP p e below _ (T79.setTop (mkF m 359 #[.val (.int p1), .val (.int p2), .val (.int p3), .val (.int p4), .val (.int vi1), .val (.int vi2), .val (.ref b3), .val (.int vi24), .val (.int z26_S0), .val (.int vi28), .val (.ref b29), .val (.int vi63)] [(.int (1 : Int32))]))
      have hc359_80 : ¬ ((1 : Int32) = (0 : Int32)) := by decide
      refine own_go (fun t_ k => XS.ifNo X79.here hx rfl (hb hby at_359) rfl ((if0 _ _).trans (feq hc359_80).1) k) ?_
      show WP p e below _ (T79.setTop (mkF m 362 #[.val (.int p1), .val (.int p2), .val (.int p3), .val (.int p4), .val (.int vi1), .val (.int vi2), .val (.ref b3), .val (.int vi24), .val (.int z26_S0), .val (.int vi28), .val (.ref b29), .val (.int vi63)] []))
      refine own_go (fun t_ k => XS.aload X79.here hx rfl (hb hby at_362) rfl rfl k) ?_
      show WP p e below _ (T79.setTop (mkF m 364 #[.val (.int p1), .val (.int p2), .val (.int p3), .val (.int p4), .val (.int vi1), .val (.int vi2), .val (.ref b3), .val (.int vi24), .val (.int z26_S0), .val (.int vi28), .val (.ref b29), .val (.int vi63)] [(.ref b29)]))
      refine own_go (fun t_ k => XS.bipush X79.here hx rfl (hb hby at_364) k) ?_
      show WP p e below _ (T79.setTop (mkF m 366 #[.val (.int p1), .val (.int p2), .val (.int p3), .val (.int p4), .val (.int vi1), .val (.int vi2), .val (.ref b3), .val (.int vi24), .val (.int z26_S0), .val (.int vi28), .val (.ref b29), .val (.int vi63)] [(.int (7 : Int32)), (.ref b29)]))
      refine own_go (fun t_ k => XS.iload X79.here hx rfl (hb hby at_366) rfl k) ?_
      show WP p e below _ (T79.setTop (mkF m 368 #[.val (.int p1), .val (.int p2), .val (.int p3), .val (.int p4), .val (.int vi1), .val (.int vi2), .val (.ref b3), .val (.int vi24), .val (.int z26_S0), .val (.int vi28), .val (.ref b29), .val (.int vi63)] [(.int vi2), (.int (7 : Int32)), (.ref b29)]))
      refine own_go (fun t_ k => XS.iload X79.here hx rfl (hb hby at_368) rfl k) ?_
      show WP p e below _ (T79.setTop (mkF m 370 #[.val (.int p1), .val (.int p2), .val (.int p3), .val (.int p4), .val (.int vi1), .val (.int vi2), .val (.ref b3), .val (.int vi24), .val (.int z26_S0), .val (.int vi28), .val (.ref b29), .val (.int vi63)] [(.int z26_S0), (.int vi2), (.int (7 : Int32)), (.ref b29)]))
      refine own_go (fun t_ k => XS.iload X79.here hx rfl (hb hby at_370) rfl k) ?_
      show WP p e below _ (T79.setTop (mkF m 372 #[.val (.int p1), .val (.int p2), .val (.int p3), .val (.int p4), .val (.int vi1), .val (.int vi2), .val (.ref b3), .val (.int vi24), .val (.int z26_S0), .val (.int vi28), .val (.ref b29), .val (.int vi63)] [(.int vi1), (.int z26_S0), (.int vi2), (.int (7 : Int32)), (.ref b29)]))
      refine own_go (fun t_ k => XS.iload X79.here hx rfl (hb hby at_372) rfl k) ?_
      show WP p e below _ (T79.setTop (mkF m 374 #[.val (.int p1), .val (.int p2), .val (.int p3), .val (.int p4), .val (.int vi1), .val (.int vi2), .val (.ref b3), .val (.int vi24), .val (.int z26_S0), .val (.int vi28), .val (.ref b29), .val (.int vi63)] [(.int vi28), (.int vi1), (.int z26_S0), (.int vi2), (.int (7 : Int32)), (.ref b29)]))
      refine own_go (fun t_ k => XS.aload X79.here hx rfl (hb hby at_374) rfl rfl k) ?_
      show WP p e below _ (T79.setTop (mkF m 376 #[.val (.int p1), .val (.int p2), .val (.int p3), .val (.int p4), .val (.int vi1), .val (.int vi2), .val (.ref b3), .val (.int vi24), .val (.int z26_S0), .val (.int vi28), .val (.ref b29), .val (.int vi63)] [(.ref b3), (.int vi28), (.int vi1), (.int z26_S0), (.int vi2), (.int (7 : Int32)), (.ref b29)]))
      obtain ⟨_, T81, Lc81, X81, hQ81, st81⟩ := own_un X79 0 0 (Jvm.LawKit.callS X79 hx (y := (⟨"com/example/bittern/bittern/DigitsPutPinLaw", "at", "([BIIIIB[I)Z"⟩ : MethodName)) hown (mvT hZ (hw _ (List.mem_of_getElem? (i := 16) rfl))) (mvT hZ (hw _ (List.mem_of_getElem? (i := 17) rfl))) (mvT hZ (hw _ (List.mem_of_getElem? (i := 18) rfl))) (mvT hZ (hw _ (List.mem_of_getElem? (i := 19) rfl))) (by decide) (backOf (W := 0) (rm2 l Z a0 hw [] b29 (7 : Int32) vi2 z26_S0 vi1 vi28 b3 k29 k3 (putL P [(vi28.toInt8.toInt32), (vi28.toInt8.toInt32), (vi28.toInt8.toInt32), (vi28.toInt8.toInt32), (vi28.toInt8.toInt32), (vi28.toInt8.toInt32), (vi28.toInt8.toInt32), (vi28.toInt8.toInt32), (vi28.toInt8.toInt32), (vi28.toInt8.toInt32), (vi28.toInt8.toInt32), (vi28.toInt8.toInt32), (vi28.toInt8.toInt32), (vi28.toInt8.toInt32), (vi28.toInt8.toInt32), (vi28.toInt8.toInt32)] z26_S0.toInt.toNat M) T62.heap n0 Vp62 ((((((((((((((((((V23.ext E29).other W31 ne_b3_b29).other W33 ne_b3_b29).other W35 ne_b3_b29).other W37 ne_b3_b29).other W39 ne_b3_b29).other W41 ne_b3_b29).other W43 ne_b3_b29).other W45 ne_b3_b29).other W47 ne_b3_b29).other W49 ne_b3_b29).other W51 ne_b3_b29).other W53 ne_b3_b29).other W55 ne_b3_b29).other W57 ne_b3_b29).other W59 ne_b3_b29).other W61 ne_b3_b29).keep K62c (ninS ne_b3_b29 nin0)) (by decide) (own_A hspec hP hM hP3 hM5 (7 : Int32) (by decide) (by decide)) (own_C hspec hP hM hP3 hM5 (own_num he24 hz26_S0) (7 : Int32) (by decide) (by decide))) hZ (hw _ (List.mem_of_getElem? (i := 19) rfl)) (hw _ (List.mem_of_getElem? (i := 18) rfl)) (by decide) (by decide)) (g := (mkF m 376 #[.val (.int p1), .val (.int p2), .val (.int p3), .val (.int p4), .val (.int vi1), .val (.int vi2), .val (.ref b3), .val (.int vi24), .val (.int z26_S0), .val (.int vi28), .val (.ref b29), .val (.int vi63)] [(.ref b3), (.int vi28), (.int vi1), (.int z26_S0), (.int vi2), (.int (7 : Int32)), (.ref b29)])) rfl (by rw [hml]; rfl) (argsL := [(.ref b29), (.int (7 : Int32)), (.int vi2), (.int z26_S0), (.int vi1), (.int vi28), (.ref b3)]) (rest := []) (lenOf pd_1 rfl) rfl (by show 2 * 0 + _ ≤ _; exact Nat.le_of_eq rfl) (hb hby at_376) (fun _ _ => ⟨rfl, e79, (by decide : 2 + 0 ≤ _), (by decide : 26 + 0 ≤ _)⟩))
      dsimp only [Pt.U] at st81
      obtain ⟨rfl, N81q, e81⟩ := hQ81
      have N81 := Fr.app N79 N81q
      replace X81 : Stand p l e room_1 s m _ below meth c T81 _ 2 26 := X81
      refine own_go st81 ?_
      show WP p e below _ (T81.setTop (mkF m 379 #[.val (.int p1), .val (.int p2), .val (.int p3), .val (.int p4), .val (.int vi1), .val (.int vi2), .val (.ref b3), .val (.int vi24), .val (.int z26_S0), .val (.int vi28), .val (.ref b29), .val (.int vi63)] [(.int (1 : Int32))]))
      have hc379_82 : ¬ ((1 : Int32) = (0 : Int32)) := by decide
      refine own_go (fun t_ k => XS.ifNo X81.here hx rfl (hb hby at_379) rfl ((if0 _ _).trans (feq hc379_82).1) k) ?_
      show WP p e below _ (T81.setTop (mkF m 382 #[.val (.int p1), .val (.int p2), .val (.int p3), .val (.int p4), .val (.int vi1), .val (.int vi2), .val (.ref b3), .val (.int vi24), .val (.int z26_S0), .val (.int vi28), .val (.ref b29), .val (.int vi63)] []))
      refine own_go (fun t_ k => XS.aload X81.here hx rfl (hb hby at_382) rfl rfl k) ?_
      show WP p e below _ (T81.setTop (mkF m 384 #[.val (.int p1), .val (.int p2), .val (.int p3), .val (.int p4), .val (.int vi1), .val (.int vi2), .val (.ref b3), .val (.int vi24), .val (.int z26_S0), .val (.int vi28), .val (.ref b29), .val (.int vi63)] [(.ref b29)]))
      refine own_go (fun t_ k => XS.bipush X81.here hx rfl (hb hby at_384) k) ?_
      show WP p e below _ (T81.setTop (mkF m 386 #[.val (.int p1), .val (.int p2), .val (.int p3), .val (.int p4), .val (.int vi1), .val (.int vi2), .val (.ref b3), .val (.int vi24), .val (.int z26_S0), .val (.int vi28), .val (.ref b29), .val (.int vi63)] [(.int (8 : Int32)), (.ref b29)]))
      refine own_go (fun t_ k => XS.iload X81.here hx rfl (hb hby at_386) rfl k) ?_
      show WP p e below _ (T81.setTop (mkF m 388 #[.val (.int p1), .val (.int p2), .val (.int p3), .val (.int p4), .val (.int vi1), .val (.int vi2), .val (.ref b3), .val (.int vi24), .val (.int z26_S0), .val (.int vi28), .val (.ref b29), .val (.int vi63)] [(.int vi2), (.int (8 : Int32)), (.ref b29)]))
      refine own_go (fun t_ k => XS.iload X81.here hx rfl (hb hby at_388) rfl k) ?_
      show WP p e below _ (T81.setTop (mkF m 390 #[.val (.int p1), .val (.int p2), .val (.int p3), .val (.int p4), .val (.int vi1), .val (.int vi2), .val (.ref b3), .val (.int vi24), .val (.int z26_S0), .val (.int vi28), .val (.ref b29), .val (.int vi63)] [(.int z26_S0), (.int vi2), (.int (8 : Int32)), (.ref b29)]))
      refine own_go (fun t_ k => XS.iload X81.here hx rfl (hb hby at_390) rfl k) ?_
      show WP p e below _ (T81.setTop (mkF m 392 #[.val (.int p1), .val (.int p2), .val (.int p3), .val (.int p4), .val (.int vi1), .val (.int vi2), .val (.ref b3), .val (.int vi24), .val (.int z26_S0), .val (.int vi28), .val (.ref b29), .val (.int vi63)] [(.int vi1), (.int z26_S0), (.int vi2), (.int (8 : Int32)), (.ref b29)]))
      refine own_go (fun t_ k => XS.iload X81.here hx rfl (hb hby at_392) rfl k) ?_
      show WP p e below _ (T81.setTop (mkF m 394 #[.val (.int p1), .val (.int p2), .val (.int p3), .val (.int p4), .val (.int vi1), .val (.int vi2), .val (.ref b3), .val (.int vi24), .val (.int z26_S0), .val (.int vi28), .val (.ref b29), .val (.int vi63)] [(.int vi28), (.int vi1), (.int z26_S0), (.int vi2), (.int (8 : Int32)), (.ref b29)]))
      refine own_go (fun t_ k => XS.aload X81.here hx rfl (hb hby at_394) rfl rfl k) ?_
      show WP p e below _ (T81.setTop (mkF m 396 #[.val (.int p1), .val (.int p2), .val (.int p3), .val (.int p4), .val (.int vi1), .val (.int vi2), .val (.ref b3), .val (.int vi24), .val (.int z26_S0), .val (.int vi28), .val (.ref b29), .val (.int vi63)] [(.ref b3), (.int vi28), (.int vi1), (.int z26_S0), (.int vi2), (.int (8 : Int32)), (.ref b29)]))
      obtain ⟨_, T83, Lc83, X83, hQ83, st83⟩ := own_un X81 0 0 (Jvm.LawKit.callS X81 hx (y := (⟨"com/example/bittern/bittern/DigitsPutPinLaw", "at", "([BIIIIB[I)Z"⟩ : MethodName)) hown (mvT hZ (hw _ (List.mem_of_getElem? (i := 16) rfl))) (mvT hZ (hw _ (List.mem_of_getElem? (i := 17) rfl))) (mvT hZ (hw _ (List.mem_of_getElem? (i := 18) rfl))) (mvT hZ (hw _ (List.mem_of_getElem? (i := 19) rfl))) (by decide) (backOf (W := 0) (rm2 l Z a0 hw [] b29 (8 : Int32) vi2 z26_S0 vi1 vi28 b3 k29 k3 (putL P [(vi28.toInt8.toInt32), (vi28.toInt8.toInt32), (vi28.toInt8.toInt32), (vi28.toInt8.toInt32), (vi28.toInt8.toInt32), (vi28.toInt8.toInt32), (vi28.toInt8.toInt32), (vi28.toInt8.toInt32), (vi28.toInt8.toInt32), (vi28.toInt8.toInt32), (vi28.toInt8.toInt32), (vi28.toInt8.toInt32), (vi28.toInt8.toInt32), (vi28.toInt8.toInt32), (vi28.toInt8.toInt32), (vi28.toInt8.toInt32)] z26_S0.toInt.toNat M) T62.heap n0 Vp62 ((((((((((((((((((V23.ext E29).other W31 ne_b3_b29).other W33 ne_b3_b29).other W35 ne_b3_b29).other W37 ne_b3_b29).other W39 ne_b3_b29).other W41 ne_b3_b29).other W43 ne_b3_b29).other W45 ne_b3_b29).other W47 ne_b3_b29).other W49 ne_b3_b29).other W51 ne_b3_b29).other W53 ne_b3_b29).other W55 ne_b3_b29).other W57 ne_b3_b29).other W59 ne_b3_b29).other W61 ne_b3_b29).keep K62c (ninS ne_b3_b29 nin0)) (by decide) (own_A hspec hP hM hP3 hM5 (8 : Int32) (by decide) (by decide)) (own_C hspec hP hM hP3 hM5 (own_num he24 hz26_S0) (8 : Int32) (by decide) (by decide))) hZ (hw _ (List.mem_of_getElem? (i := 19) rfl)) (hw _ (List.mem_of_getElem? (i := 18) rfl)) (by decide) (by decide)) (g := (mkF m 396 #[.val (.int p1), .val (.int p2), .val (.int p3), .val (.int p4), .val (.int vi1), .val (.int vi2), .val (.ref b3), .val (.int vi24), .val (.int z26_S0), .val (.int vi28), .val (.ref b29), .val (.int vi63)] [(.ref b3), (.int vi28), (.int vi1), (.int z26_S0), (.int vi2), (.int (8 : Int32)), (.ref b29)])) rfl (by rw [hml]; rfl) (argsL := [(.ref b29), (.int (8 : Int32)), (.int vi2), (.int z26_S0), (.int vi1), (.int vi28), (.ref b3)]) (rest := []) (lenOf pd_1 rfl) rfl (by show 2 * 0 + _ ≤ _; exact Nat.le_of_eq rfl) (hb hby at_396) (fun _ _ => ⟨rfl, e81, (by decide : 2 + 0 ≤ _), (by decide : 26 + 0 ≤ _)⟩))
      dsimp only [Pt.U] at st83
      obtain ⟨rfl, N83q, e83⟩ := hQ83
      have N83 := Fr.app N81 N83q
      replace X83 : Stand p l e room_1 s m _ below meth c T83 _ 2 26 := X83
      refine own_go st83 ?_
      show WP p e below _ (T83.setTop (mkF m 399 #[.val (.int p1), .val (.int p2), .val (.int p3), .val (.int p4), .val (.int vi1), .val (.int vi2), .val (.ref b3), .val (.int vi24), .val (.int z26_S0), .val (.int vi28), .val (.ref b29), .val (.int vi63)] [(.int (1 : Int32))]))
      have hc399_84 : ¬ ((1 : Int32) = (0 : Int32)) := by decide
      refine own_go (fun t_ k => XS.ifNo X83.here hx rfl (hb hby at_399) rfl ((if0 _ _).trans (feq hc399_84).1) k) ?_
      show WP p e below _ (T83.setTop (mkF m 402 #[.val (.int p1), .val (.int p2), .val (.int p3), .val (.int p4), .val (.int vi1), .val (.int vi2), .val (.ref b3), .val (.int vi24), .val (.int z26_S0), .val (.int vi28), .val (.ref b29), .val (.int vi63)] []))
      refine own_go (fun t_ k => XS.aload X83.here hx rfl (hb hby at_402) rfl rfl k) ?_
      show WP p e below _ (T83.setTop (mkF m 404 #[.val (.int p1), .val (.int p2), .val (.int p3), .val (.int p4), .val (.int vi1), .val (.int vi2), .val (.ref b3), .val (.int vi24), .val (.int z26_S0), .val (.int vi28), .val (.ref b29), .val (.int vi63)] [(.ref b29)]))
      refine own_go (fun t_ k => XS.bipush X83.here hx rfl (hb hby at_404) k) ?_
      show WP p e below _ (T83.setTop (mkF m 406 #[.val (.int p1), .val (.int p2), .val (.int p3), .val (.int p4), .val (.int vi1), .val (.int vi2), .val (.ref b3), .val (.int vi24), .val (.int z26_S0), .val (.int vi28), .val (.ref b29), .val (.int vi63)] [(.int (9 : Int32)), (.ref b29)]))
      refine own_go (fun t_ k => XS.iload X83.here hx rfl (hb hby at_406) rfl k) ?_
      show WP p e below _ (T83.setTop (mkF m 408 #[.val (.int p1), .val (.int p2), .val (.int p3), .val (.int p4), .val (.int vi1), .val (.int vi2), .val (.ref b3), .val (.int vi24), .val (.int z26_S0), .val (.int vi28), .val (.ref b29), .val (.int vi63)] [(.int vi2), (.int (9 : Int32)), (.ref b29)]))
      refine own_go (fun t_ k => XS.iload X83.here hx rfl (hb hby at_408) rfl k) ?_
      show WP p e below _ (T83.setTop (mkF m 410 #[.val (.int p1), .val (.int p2), .val (.int p3), .val (.int p4), .val (.int vi1), .val (.int vi2), .val (.ref b3), .val (.int vi24), .val (.int z26_S0), .val (.int vi28), .val (.ref b29), .val (.int vi63)] [(.int z26_S0), (.int vi2), (.int (9 : Int32)), (.ref b29)]))
      refine own_go (fun t_ k => XS.iload X83.here hx rfl (hb hby at_410) rfl k) ?_
      show WP p e below _ (T83.setTop (mkF m 412 #[.val (.int p1), .val (.int p2), .val (.int p3), .val (.int p4), .val (.int vi1), .val (.int vi2), .val (.ref b3), .val (.int vi24), .val (.int z26_S0), .val (.int vi28), .val (.ref b29), .val (.int vi63)] [(.int vi1), (.int z26_S0), (.int vi2), (.int (9 : Int32)), (.ref b29)]))
      refine own_go (fun t_ k => XS.iload X83.here hx rfl (hb hby at_412) rfl k) ?_
      show WP p e below _ (T83.setTop (mkF m 414 #[.val (.int p1), .val (.int p2), .val (.int p3), .val (.int p4), .val (.int vi1), .val (.int vi2), .val (.ref b3), .val (.int vi24), .val (.int z26_S0), .val (.int vi28), .val (.ref b29), .val (.int vi63)] [(.int vi28), (.int vi1), (.int z26_S0), (.int vi2), (.int (9 : Int32)), (.ref b29)]))
      refine own_go (fun t_ k => XS.aload X83.here hx rfl (hb hby at_414) rfl rfl k) ?_
      show WP p e below _ (T83.setTop (mkF m 416 #[.val (.int p1), .val (.int p2), .val (.int p3), .val (.int p4), .val (.int vi1), .val (.int vi2), .val (.ref b3), .val (.int vi24), .val (.int z26_S0), .val (.int vi28), .val (.ref b29), .val (.int vi63)] [(.ref b3), (.int vi28), (.int vi1), (.int z26_S0), (.int vi2), (.int (9 : Int32)), (.ref b29)]))
      obtain ⟨_, T85, Lc85, X85, hQ85, st85⟩ := own_un X83 0 0 (Jvm.LawKit.callS X83 hx (y := (⟨"com/example/bittern/bittern/DigitsPutPinLaw", "at", "([BIIIIB[I)Z"⟩ : MethodName)) hown (mvT hZ (hw _ (List.mem_of_getElem? (i := 16) rfl))) (mvT hZ (hw _ (List.mem_of_getElem? (i := 17) rfl))) (mvT hZ (hw _ (List.mem_of_getElem? (i := 18) rfl))) (mvT hZ (hw _ (List.mem_of_getElem? (i := 19) rfl))) (by decide) (backOf (W := 0) (rm2 l Z a0 hw [] b29 (9 : Int32) vi2 z26_S0 vi1 vi28 b3 k29 k3 (putL P [(vi28.toInt8.toInt32), (vi28.toInt8.toInt32), (vi28.toInt8.toInt32), (vi28.toInt8.toInt32), (vi28.toInt8.toInt32), (vi28.toInt8.toInt32), (vi28.toInt8.toInt32), (vi28.toInt8.toInt32), (vi28.toInt8.toInt32), (vi28.toInt8.toInt32), (vi28.toInt8.toInt32), (vi28.toInt8.toInt32), (vi28.toInt8.toInt32), (vi28.toInt8.toInt32), (vi28.toInt8.toInt32), (vi28.toInt8.toInt32)] z26_S0.toInt.toNat M) T62.heap n0 Vp62 ((((((((((((((((((V23.ext E29).other W31 ne_b3_b29).other W33 ne_b3_b29).other W35 ne_b3_b29).other W37 ne_b3_b29).other W39 ne_b3_b29).other W41 ne_b3_b29).other W43 ne_b3_b29).other W45 ne_b3_b29).other W47 ne_b3_b29).other W49 ne_b3_b29).other W51 ne_b3_b29).other W53 ne_b3_b29).other W55 ne_b3_b29).other W57 ne_b3_b29).other W59 ne_b3_b29).other W61 ne_b3_b29).keep K62c (ninS ne_b3_b29 nin0)) (by decide) (own_A hspec hP hM hP3 hM5 (9 : Int32) (by decide) (by decide)) (own_C hspec hP hM hP3 hM5 (own_num he24 hz26_S0) (9 : Int32) (by decide) (by decide))) hZ (hw _ (List.mem_of_getElem? (i := 19) rfl)) (hw _ (List.mem_of_getElem? (i := 18) rfl)) (by decide) (by decide)) (g := (mkF m 416 #[.val (.int p1), .val (.int p2), .val (.int p3), .val (.int p4), .val (.int vi1), .val (.int vi2), .val (.ref b3), .val (.int vi24), .val (.int z26_S0), .val (.int vi28), .val (.ref b29), .val (.int vi63)] [(.ref b3), (.int vi28), (.int vi1), (.int z26_S0), (.int vi2), (.int (9 : Int32)), (.ref b29)])) rfl (by rw [hml]; rfl) (argsL := [(.ref b29), (.int (9 : Int32)), (.int vi2), (.int z26_S0), (.int vi1), (.int vi28), (.ref b3)]) (rest := []) (lenOf pd_1 rfl) rfl (by show 2 * 0 + _ ≤ _; exact Nat.le_of_eq rfl) (hb hby at_416) (fun _ _ => ⟨rfl, e83, (by decide : 2 + 0 ≤ _), (by decide : 26 + 0 ≤ _)⟩))
      dsimp only [Pt.U] at st85
      obtain ⟨rfl, N85q, e85⟩ := hQ85
      have N85 := Fr.app N83 N85q
      replace X85 : Stand p l e room_1 s m _ below meth c T85 _ 2 26 := X85
      refine own_go st85 ?_
      show WP p e below _ (T85.setTop (mkF m 419 #[.val (.int p1), .val (.int p2), .val (.int p3), .val (.int p4), .val (.int vi1), .val (.int vi2), .val (.ref b3), .val (.int vi24), .val (.int z26_S0), .val (.int vi28), .val (.ref b29), .val (.int vi63)] [(.int (1 : Int32))]))
      have hc419_86 : ¬ ((1 : Int32) = (0 : Int32)) := by decide
      refine own_go (fun t_ k => XS.ifNo X85.here hx rfl (hb hby at_419) rfl ((if0 _ _).trans (feq hc419_86).1) k) ?_
      show WP p e below _ (T85.setTop (mkF m 422 #[.val (.int p1), .val (.int p2), .val (.int p3), .val (.int p4), .val (.int vi1), .val (.int vi2), .val (.ref b3), .val (.int vi24), .val (.int z26_S0), .val (.int vi28), .val (.ref b29), .val (.int vi63)] []))
      refine own_go (fun t_ k => XS.aload X85.here hx rfl (hb hby at_422) rfl rfl k) ?_
      show WP p e below _ (T85.setTop (mkF m 424 #[.val (.int p1), .val (.int p2), .val (.int p3), .val (.int p4), .val (.int vi1), .val (.int vi2), .val (.ref b3), .val (.int vi24), .val (.int z26_S0), .val (.int vi28), .val (.ref b29), .val (.int vi63)] [(.ref b29)]))
      refine own_go (fun t_ k => XS.bipush X85.here hx rfl (hb hby at_424) k) ?_
      show WP p e below _ (T85.setTop (mkF m 426 #[.val (.int p1), .val (.int p2), .val (.int p3), .val (.int p4), .val (.int vi1), .val (.int vi2), .val (.ref b3), .val (.int vi24), .val (.int z26_S0), .val (.int vi28), .val (.ref b29), .val (.int vi63)] [(.int (10 : Int32)), (.ref b29)]))
      refine own_go (fun t_ k => XS.iload X85.here hx rfl (hb hby at_426) rfl k) ?_
      show WP p e below _ (T85.setTop (mkF m 428 #[.val (.int p1), .val (.int p2), .val (.int p3), .val (.int p4), .val (.int vi1), .val (.int vi2), .val (.ref b3), .val (.int vi24), .val (.int z26_S0), .val (.int vi28), .val (.ref b29), .val (.int vi63)] [(.int vi2), (.int (10 : Int32)), (.ref b29)]))
      refine own_go (fun t_ k => XS.iload X85.here hx rfl (hb hby at_428) rfl k) ?_
      show WP p e below _ (T85.setTop (mkF m 430 #[.val (.int p1), .val (.int p2), .val (.int p3), .val (.int p4), .val (.int vi1), .val (.int vi2), .val (.ref b3), .val (.int vi24), .val (.int z26_S0), .val (.int vi28), .val (.ref b29), .val (.int vi63)] [(.int z26_S0), (.int vi2), (.int (10 : Int32)), (.ref b29)]))
      refine own_go (fun t_ k => XS.iload X85.here hx rfl (hb hby at_430) rfl k) ?_
      show WP p e below _ (T85.setTop (mkF m 432 #[.val (.int p1), .val (.int p2), .val (.int p3), .val (.int p4), .val (.int vi1), .val (.int vi2), .val (.ref b3), .val (.int vi24), .val (.int z26_S0), .val (.int vi28), .val (.ref b29), .val (.int vi63)] [(.int vi1), (.int z26_S0), (.int vi2), (.int (10 : Int32)), (.ref b29)]))
      refine own_go (fun t_ k => XS.iload X85.here hx rfl (hb hby at_432) rfl k) ?_
      show WP p e below _ (T85.setTop (mkF m 434 #[.val (.int p1), .val (.int p2), .val (.int p3), .val (.int p4), .val (.int vi1), .val (.int vi2), .val (.ref b3), .val (.int vi24), .val (.int z26_S0), .val (.int vi28), .val (.ref b29), .val (.int vi63)] [(.int vi28), (.int vi1), (.int z26_S0), (.int vi2), (.int (10 : Int32)), (.ref b29)]))
      refine own_go (fun t_ k => XS.aload X85.here hx rfl (hb hby at_434) rfl rfl k) ?_
      show WP p e below _ (T85.setTop (mkF m 436 #[.val (.int p1), .val (.int p2), .val (.int p3), .val (.int p4), .val (.int vi1), .val (.int vi2), .val (.ref b3), .val (.int vi24), .val (.int z26_S0), .val (.int vi28), .val (.ref b29), .val (.int vi63)] [(.ref b3), (.int vi28), (.int vi1), (.int z26_S0), (.int vi2), (.int (10 : Int32)), (.ref b29)]))
      obtain ⟨_, T87, Lc87, X87, hQ87, st87⟩ := own_un X85 0 0 (Jvm.LawKit.callS X85 hx (y := (⟨"com/example/bittern/bittern/DigitsPutPinLaw", "at", "([BIIIIB[I)Z"⟩ : MethodName)) hown (mvT hZ (hw _ (List.mem_of_getElem? (i := 16) rfl))) (mvT hZ (hw _ (List.mem_of_getElem? (i := 17) rfl))) (mvT hZ (hw _ (List.mem_of_getElem? (i := 18) rfl))) (mvT hZ (hw _ (List.mem_of_getElem? (i := 19) rfl))) (by decide) (backOf (W := 0) (rm2 l Z a0 hw [] b29 (10 : Int32) vi2 z26_S0 vi1 vi28 b3 k29 k3 (putL P [(vi28.toInt8.toInt32), (vi28.toInt8.toInt32), (vi28.toInt8.toInt32), (vi28.toInt8.toInt32), (vi28.toInt8.toInt32), (vi28.toInt8.toInt32), (vi28.toInt8.toInt32), (vi28.toInt8.toInt32), (vi28.toInt8.toInt32), (vi28.toInt8.toInt32), (vi28.toInt8.toInt32), (vi28.toInt8.toInt32), (vi28.toInt8.toInt32), (vi28.toInt8.toInt32), (vi28.toInt8.toInt32), (vi28.toInt8.toInt32)] z26_S0.toInt.toNat M) T62.heap n0 Vp62 ((((((((((((((((((V23.ext E29).other W31 ne_b3_b29).other W33 ne_b3_b29).other W35 ne_b3_b29).other W37 ne_b3_b29).other W39 ne_b3_b29).other W41 ne_b3_b29).other W43 ne_b3_b29).other W45 ne_b3_b29).other W47 ne_b3_b29).other W49 ne_b3_b29).other W51 ne_b3_b29).other W53 ne_b3_b29).other W55 ne_b3_b29).other W57 ne_b3_b29).other W59 ne_b3_b29).other W61 ne_b3_b29).keep K62c (ninS ne_b3_b29 nin0)) (by decide) (own_A hspec hP hM hP3 hM5 (10 : Int32) (by decide) (by decide)) (own_C hspec hP hM hP3 hM5 (own_num he24 hz26_S0) (10 : Int32) (by decide) (by decide))) hZ (hw _ (List.mem_of_getElem? (i := 19) rfl)) (hw _ (List.mem_of_getElem? (i := 18) rfl)) (by decide) (by decide)) (g := (mkF m 436 #[.val (.int p1), .val (.int p2), .val (.int p3), .val (.int p4), .val (.int vi1), .val (.int vi2), .val (.ref b3), .val (.int vi24), .val (.int z26_S0), .val (.int vi28), .val (.ref b29), .val (.int vi63)] [(.ref b3), (.int vi28), (.int vi1), (.int z26_S0), (.int vi2), (.int (10 : Int32)), (.ref b29)])) rfl (by rw [hml]; rfl) (argsL := [(.ref b29), (.int (10 : Int32)), (.int vi2), (.int z26_S0), (.int vi1), (.int vi28), (.ref b3)]) (rest := []) (lenOf pd_1 rfl) rfl (by show 2 * 0 + _ ≤ _; exact Nat.le_of_eq rfl) (hb hby at_436) (fun _ _ => ⟨rfl, e85, (by decide : 2 + 0 ≤ _), (by decide : 26 + 0 ≤ _)⟩))
      dsimp only [Pt.U] at st87
      obtain ⟨rfl, N87q, e87⟩ := hQ87
      have N87 := Fr.app N85 N87q
      replace X87 : Stand p l e room_1 s m _ below meth c T87 _ 2 26 := X87
      refine own_go st87 ?_
      show WP p e below _ (T87.setTop (mkF m 439 #[.val (.int p1), .val (.int p2), .val (.int p3), .val (.int p4), .val (.int vi1), .val (.int vi2), .val (.ref b3), .val (.int vi24), .val (.int z26_S0), .val (.int vi28), .val (.ref b29), .val (.int vi63)] [(.int (1 : Int32))]))
      have hc439_88 : ¬ ((1 : Int32) = (0 : Int32)) := by decide
      refine own_go (fun t_ k => XS.ifNo X87.here hx rfl (hb hby at_439) rfl ((if0 _ _).trans (feq hc439_88).1) k) ?_
      show WP p e below _ (T87.setTop (mkF m 442 #[.val (.int p1), .val (.int p2), .val (.int p3), .val (.int p4), .val (.int vi1), .val (.int vi2), .val (.ref b3), .val (.int vi24), .val (.int z26_S0), .val (.int vi28), .val (.ref b29), .val (.int vi63)] []))
      refine own_go (fun t_ k => XS.aload X87.here hx rfl (hb hby at_442) rfl rfl k) ?_
      show WP p e below _ (T87.setTop (mkF m 444 #[.val (.int p1), .val (.int p2), .val (.int p3), .val (.int p4), .val (.int vi1), .val (.int vi2), .val (.ref b3), .val (.int vi24), .val (.int z26_S0), .val (.int vi28), .val (.ref b29), .val (.int vi63)] [(.ref b29)]))
      refine own_go (fun t_ k => XS.bipush X87.here hx rfl (hb hby at_444) k) ?_
      show WP p e below _ (T87.setTop (mkF m 446 #[.val (.int p1), .val (.int p2), .val (.int p3), .val (.int p4), .val (.int vi1), .val (.int vi2), .val (.ref b3), .val (.int vi24), .val (.int z26_S0), .val (.int vi28), .val (.ref b29), .val (.int vi63)] [(.int (11 : Int32)), (.ref b29)]))
      refine own_go (fun t_ k => XS.iload X87.here hx rfl (hb hby at_446) rfl k) ?_
      show WP p e below _ (T87.setTop (mkF m 448 #[.val (.int p1), .val (.int p2), .val (.int p3), .val (.int p4), .val (.int vi1), .val (.int vi2), .val (.ref b3), .val (.int vi24), .val (.int z26_S0), .val (.int vi28), .val (.ref b29), .val (.int vi63)] [(.int vi2), (.int (11 : Int32)), (.ref b29)]))
      refine own_go (fun t_ k => XS.iload X87.here hx rfl (hb hby at_448) rfl k) ?_
      show WP p e below _ (T87.setTop (mkF m 450 #[.val (.int p1), .val (.int p2), .val (.int p3), .val (.int p4), .val (.int vi1), .val (.int vi2), .val (.ref b3), .val (.int vi24), .val (.int z26_S0), .val (.int vi28), .val (.ref b29), .val (.int vi63)] [(.int z26_S0), (.int vi2), (.int (11 : Int32)), (.ref b29)]))
      refine own_go (fun t_ k => XS.iload X87.here hx rfl (hb hby at_450) rfl k) ?_
      show WP p e below _ (T87.setTop (mkF m 452 #[.val (.int p1), .val (.int p2), .val (.int p3), .val (.int p4), .val (.int vi1), .val (.int vi2), .val (.ref b3), .val (.int vi24), .val (.int z26_S0), .val (.int vi28), .val (.ref b29), .val (.int vi63)] [(.int vi1), (.int z26_S0), (.int vi2), (.int (11 : Int32)), (.ref b29)]))
      refine own_go (fun t_ k => XS.iload X87.here hx rfl (hb hby at_452) rfl k) ?_
      show WP p e below _ (T87.setTop (mkF m 454 #[.val (.int p1), .val (.int p2), .val (.int p3), .val (.int p4), .val (.int vi1), .val (.int vi2), .val (.ref b3), .val (.int vi24), .val (.int z26_S0), .val (.int vi28), .val (.ref b29), .val (.int vi63)] [(.int vi28), (.int vi1), (.int z26_S0), (.int vi2), (.int (11 : Int32)), (.ref b29)]))
      refine own_go (fun t_ k => XS.aload X87.here hx rfl (hb hby at_454) rfl rfl k) ?_
      show WP p e below _ (T87.setTop (mkF m 456 #[.val (.int p1), .val (.int p2), .val (.int p3), .val (.int p4), .val (.int vi1), .val (.int vi2), .val (.ref b3), .val (.int vi24), .val (.int z26_S0), .val (.int vi28), .val (.ref b29), .val (.int vi63)] [(.ref b3), (.int vi28), (.int vi1), (.int z26_S0), (.int vi2), (.int (11 : Int32)), (.ref b29)]))
      obtain ⟨_, T89, Lc89, X89, hQ89, st89⟩ := own_un X87 0 0 (Jvm.LawKit.callS X87 hx (y := (⟨"com/example/bittern/bittern/DigitsPutPinLaw", "at", "([BIIIIB[I)Z"⟩ : MethodName)) hown (mvT hZ (hw _ (List.mem_of_getElem? (i := 16) rfl))) (mvT hZ (hw _ (List.mem_of_getElem? (i := 17) rfl))) (mvT hZ (hw _ (List.mem_of_getElem? (i := 18) rfl))) (mvT hZ (hw _ (List.mem_of_getElem? (i := 19) rfl))) (by decide) (backOf (W := 0) (rm2 l Z a0 hw [] b29 (11 : Int32) vi2 z26_S0 vi1 vi28 b3 k29 k3 (putL P [(vi28.toInt8.toInt32), (vi28.toInt8.toInt32), (vi28.toInt8.toInt32), (vi28.toInt8.toInt32), (vi28.toInt8.toInt32), (vi28.toInt8.toInt32), (vi28.toInt8.toInt32), (vi28.toInt8.toInt32), (vi28.toInt8.toInt32), (vi28.toInt8.toInt32), (vi28.toInt8.toInt32), (vi28.toInt8.toInt32), (vi28.toInt8.toInt32), (vi28.toInt8.toInt32), (vi28.toInt8.toInt32), (vi28.toInt8.toInt32)] z26_S0.toInt.toNat M) T62.heap n0 Vp62 ((((((((((((((((((V23.ext E29).other W31 ne_b3_b29).other W33 ne_b3_b29).other W35 ne_b3_b29).other W37 ne_b3_b29).other W39 ne_b3_b29).other W41 ne_b3_b29).other W43 ne_b3_b29).other W45 ne_b3_b29).other W47 ne_b3_b29).other W49 ne_b3_b29).other W51 ne_b3_b29).other W53 ne_b3_b29).other W55 ne_b3_b29).other W57 ne_b3_b29).other W59 ne_b3_b29).other W61 ne_b3_b29).keep K62c (ninS ne_b3_b29 nin0)) (by decide) (own_A hspec hP hM hP3 hM5 (11 : Int32) (by decide) (by decide)) (own_C hspec hP hM hP3 hM5 (own_num he24 hz26_S0) (11 : Int32) (by decide) (by decide))) hZ (hw _ (List.mem_of_getElem? (i := 19) rfl)) (hw _ (List.mem_of_getElem? (i := 18) rfl)) (by decide) (by decide)) (g := (mkF m 456 #[.val (.int p1), .val (.int p2), .val (.int p3), .val (.int p4), .val (.int vi1), .val (.int vi2), .val (.ref b3), .val (.int vi24), .val (.int z26_S0), .val (.int vi28), .val (.ref b29), .val (.int vi63)] [(.ref b3), (.int vi28), (.int vi1), (.int z26_S0), (.int vi2), (.int (11 : Int32)), (.ref b29)])) rfl (by rw [hml]; rfl) (argsL := [(.ref b29), (.int (11 : Int32)), (.int vi2), (.int z26_S0), (.int vi1), (.int vi28), (.ref b3)]) (rest := []) (lenOf pd_1 rfl) rfl (by show 2 * 0 + _ ≤ _; exact Nat.le_of_eq rfl) (hb hby at_456) (fun _ _ => ⟨rfl, e87, (by decide : 2 + 0 ≤ _), (by decide : 26 + 0 ≤ _)⟩))
      dsimp only [Pt.U] at st89
      obtain ⟨rfl, N89q, e89⟩ := hQ89
      have N89 := Fr.app N87 N89q
      replace X89 : Stand p l e room_1 s m _ below meth c T89 _ 2 26 := X89
      refine own_go st89 ?_
      show WP p e below _ (T89.setTop (mkF m 459 #[.val (.int p1), .val (.int p2), .val (.int p3), .val (.int p4), .val (.int vi1), .val (.int vi2), .val (.ref b3), .val (.int vi24), .val (.int z26_S0), .val (.int vi28), .val (.ref b29), .val (.int vi63)] [(.int (1 : Int32))]))
      have hc459_90 : ¬ ((1 : Int32) = (0 : Int32)) := by decide
      refine own_go (fun t_ k => XS.ifNo X89.here hx rfl (hb hby at_459) rfl ((if0 _ _).trans (feq hc459_90).1) k) ?_
      show WP p e below _ (T89.setTop (mkF m 462 #[.val (.int p1), .val (.int p2), .val (.int p3), .val (.int p4), .val (.int vi1), .val (.int vi2), .val (.ref b3), .val (.int vi24), .val (.int z26_S0), .val (.int vi28), .val (.ref b29), .val (.int vi63)] []))
      refine own_go (fun t_ k => XS.aload X89.here hx rfl (hb hby at_462) rfl rfl k) ?_
      show WP p e below _ (T89.setTop (mkF m 464 #[.val (.int p1), .val (.int p2), .val (.int p3), .val (.int p4), .val (.int vi1), .val (.int vi2), .val (.ref b3), .val (.int vi24), .val (.int z26_S0), .val (.int vi28), .val (.ref b29), .val (.int vi63)] [(.ref b29)]))
      refine own_go (fun t_ k => XS.bipush X89.here hx rfl (hb hby at_464) k) ?_
      show WP p e below _ (T89.setTop (mkF m 466 #[.val (.int p1), .val (.int p2), .val (.int p3), .val (.int p4), .val (.int vi1), .val (.int vi2), .val (.ref b3), .val (.int vi24), .val (.int z26_S0), .val (.int vi28), .val (.ref b29), .val (.int vi63)] [(.int (12 : Int32)), (.ref b29)]))
      refine own_go (fun t_ k => XS.iload X89.here hx rfl (hb hby at_466) rfl k) ?_
      show WP p e below _ (T89.setTop (mkF m 468 #[.val (.int p1), .val (.int p2), .val (.int p3), .val (.int p4), .val (.int vi1), .val (.int vi2), .val (.ref b3), .val (.int vi24), .val (.int z26_S0), .val (.int vi28), .val (.ref b29), .val (.int vi63)] [(.int vi2), (.int (12 : Int32)), (.ref b29)]))
      refine own_go (fun t_ k => XS.iload X89.here hx rfl (hb hby at_468) rfl k) ?_
      show WP p e below _ (T89.setTop (mkF m 470 #[.val (.int p1), .val (.int p2), .val (.int p3), .val (.int p4), .val (.int vi1), .val (.int vi2), .val (.ref b3), .val (.int vi24), .val (.int z26_S0), .val (.int vi28), .val (.ref b29), .val (.int vi63)] [(.int z26_S0), (.int vi2), (.int (12 : Int32)), (.ref b29)]))
      refine own_go (fun t_ k => XS.iload X89.here hx rfl (hb hby at_470) rfl k) ?_
      show WP p e below _ (T89.setTop (mkF m 472 #[.val (.int p1), .val (.int p2), .val (.int p3), .val (.int p4), .val (.int vi1), .val (.int vi2), .val (.ref b3), .val (.int vi24), .val (.int z26_S0), .val (.int vi28), .val (.ref b29), .val (.int vi63)] [(.int vi1), (.int z26_S0), (.int vi2), (.int (12 : Int32)), (.ref b29)]))
      refine own_go (fun t_ k => XS.iload X89.here hx rfl (hb hby at_472) rfl k) ?_
      show WP p e below _ (T89.setTop (mkF m 474 #[.val (.int p1), .val (.int p2), .val (.int p3), .val (.int p4), .val (.int vi1), .val (.int vi2), .val (.ref b3), .val (.int vi24), .val (.int z26_S0), .val (.int vi28), .val (.ref b29), .val (.int vi63)] [(.int vi28), (.int vi1), (.int z26_S0), (.int vi2), (.int (12 : Int32)), (.ref b29)]))
      refine own_go (fun t_ k => XS.aload X89.here hx rfl (hb hby at_474) rfl rfl k) ?_
      show WP p e below _ (T89.setTop (mkF m 476 #[.val (.int p1), .val (.int p2), .val (.int p3), .val (.int p4), .val (.int vi1), .val (.int vi2), .val (.ref b3), .val (.int vi24), .val (.int z26_S0), .val (.int vi28), .val (.ref b29), .val (.int vi63)] [(.ref b3), (.int vi28), (.int vi1), (.int z26_S0), (.int vi2), (.int (12 : Int32)), (.ref b29)]))
      obtain ⟨_, T91, Lc91, X91, hQ91, st91⟩ := own_un X89 0 0 (Jvm.LawKit.callS X89 hx (y := (⟨"com/example/bittern/bittern/DigitsPutPinLaw", "at", "([BIIIIB[I)Z"⟩ : MethodName)) hown (mvT hZ (hw _ (List.mem_of_getElem? (i := 16) rfl))) (mvT hZ (hw _ (List.mem_of_getElem? (i := 17) rfl))) (mvT hZ (hw _ (List.mem_of_getElem? (i := 18) rfl))) (mvT hZ (hw _ (List.mem_of_getElem? (i := 19) rfl))) (by decide) (backOf (W := 0) (rm2 l Z a0 hw [] b29 (12 : Int32) vi2 z26_S0 vi1 vi28 b3 k29 k3 (putL P [(vi28.toInt8.toInt32), (vi28.toInt8.toInt32), (vi28.toInt8.toInt32), (vi28.toInt8.toInt32), (vi28.toInt8.toInt32), (vi28.toInt8.toInt32), (vi28.toInt8.toInt32), (vi28.toInt8.toInt32), (vi28.toInt8.toInt32), (vi28.toInt8.toInt32), (vi28.toInt8.toInt32), (vi28.toInt8.toInt32), (vi28.toInt8.toInt32), (vi28.toInt8.toInt32), (vi28.toInt8.toInt32), (vi28.toInt8.toInt32)] z26_S0.toInt.toNat M) T62.heap n0 Vp62 ((((((((((((((((((V23.ext E29).other W31 ne_b3_b29).other W33 ne_b3_b29).other W35 ne_b3_b29).other W37 ne_b3_b29).other W39 ne_b3_b29).other W41 ne_b3_b29).other W43 ne_b3_b29).other W45 ne_b3_b29).other W47 ne_b3_b29).other W49 ne_b3_b29).other W51 ne_b3_b29).other W53 ne_b3_b29).other W55 ne_b3_b29).other W57 ne_b3_b29).other W59 ne_b3_b29).other W61 ne_b3_b29).keep K62c (ninS ne_b3_b29 nin0)) (by decide) (own_A hspec hP hM hP3 hM5 (12 : Int32) (by decide) (by decide)) (own_C hspec hP hM hP3 hM5 (own_num he24 hz26_S0) (12 : Int32) (by decide) (by decide))) hZ (hw _ (List.mem_of_getElem? (i := 19) rfl)) (hw _ (List.mem_of_getElem? (i := 18) rfl)) (by decide) (by decide)) (g := (mkF m 476 #[.val (.int p1), .val (.int p2), .val (.int p3), .val (.int p4), .val (.int vi1), .val (.int vi2), .val (.ref b3), .val (.int vi24), .val (.int z26_S0), .val (.int vi28), .val (.ref b29), .val (.int vi63)] [(.ref b3), (.int vi28), (.int vi1), (.int z26_S0), (.int vi2), (.int (12 : Int32)), (.ref b29)])) rfl (by rw [hml]; rfl) (argsL := [(.ref b29), (.int (12 : Int32)), (.int vi2), (.int z26_S0), (.int vi1), (.int vi28), (.ref b3)]) (rest := []) (lenOf pd_1 rfl) rfl (by show 2 * 0 + _ ≤ _; exact Nat.le_of_eq rfl) (hb hby at_476) (fun _ _ => ⟨rfl, e89, (by decide : 2 + 0 ≤ _), (by decide : 26 + 0 ≤ _)⟩))
      dsimp only [Pt.U] at st91
      obtain ⟨rfl, N91q, e91⟩ := hQ91
      have N91 := Fr.app N89 N91q
      replace X91 : Stand p l e room_1 s m _ below meth c T91 _ 2 26 := X91
      refine own_go st91 ?_
      show WP p e below _ (T91.setTop (mkF m 479 #[.val (.int p1), .val (.int p2), .val (.int p3), .val (.int p4), .val (.int vi1), .val (.int vi2), .val (.ref b3), .val (.int vi24), .val (.int z26_S0), .val (.int vi28), .val (.ref b29), .val (.int vi63)] [(.int (1 : Int32))]))
      have hc479_92 : ¬ ((1 : Int32) = (0 : Int32)) := by decide
      refine own_go (fun t_ k => XS.ifNo X91.here hx rfl (hb hby at_479) rfl ((if0 _ _).trans (feq hc479_92).1) k) ?_
      show WP p e below _ (T91.setTop (mkF m 482 #[.val (.int p1), .val (.int p2), .val (.int p3), .val (.int p4), .val (.int vi1), .val (.int vi2), .val (.ref b3), .val (.int vi24), .val (.int z26_S0), .val (.int vi28), .val (.ref b29), .val (.int vi63)] []))
      refine own_go (fun t_ k => XS.aload X91.here hx rfl (hb hby at_482) rfl rfl k) ?_
      show WP p e below _ (T91.setTop (mkF m 484 #[.val (.int p1), .val (.int p2), .val (.int p3), .val (.int p4), .val (.int vi1), .val (.int vi2), .val (.ref b3), .val (.int vi24), .val (.int z26_S0), .val (.int vi28), .val (.ref b29), .val (.int vi63)] [(.ref b29)]))
      refine own_go (fun t_ k => XS.bipush X91.here hx rfl (hb hby at_484) k) ?_
      show WP p e below _ (T91.setTop (mkF m 486 #[.val (.int p1), .val (.int p2), .val (.int p3), .val (.int p4), .val (.int vi1), .val (.int vi2), .val (.ref b3), .val (.int vi24), .val (.int z26_S0), .val (.int vi28), .val (.ref b29), .val (.int vi63)] [(.int (13 : Int32)), (.ref b29)]))
      refine own_go (fun t_ k => XS.iload X91.here hx rfl (hb hby at_486) rfl k) ?_
      show WP p e below _ (T91.setTop (mkF m 488 #[.val (.int p1), .val (.int p2), .val (.int p3), .val (.int p4), .val (.int vi1), .val (.int vi2), .val (.ref b3), .val (.int vi24), .val (.int z26_S0), .val (.int vi28), .val (.ref b29), .val (.int vi63)] [(.int vi2), (.int (13 : Int32)), (.ref b29)]))
      refine own_go (fun t_ k => XS.iload X91.here hx rfl (hb hby at_488) rfl k) ?_
      show WP p e below _ (T91.setTop (mkF m 490 #[.val (.int p1), .val (.int p2), .val (.int p3), .val (.int p4), .val (.int vi1), .val (.int vi2), .val (.ref b3), .val (.int vi24), .val (.int z26_S0), .val (.int vi28), .val (.ref b29), .val (.int vi63)] [(.int z26_S0), (.int vi2), (.int (13 : Int32)), (.ref b29)]))
      refine own_go (fun t_ k => XS.iload X91.here hx rfl (hb hby at_490) rfl k) ?_
      show WP p e below _ (T91.setTop (mkF m 492 #[.val (.int p1), .val (.int p2), .val (.int p3), .val (.int p4), .val (.int vi1), .val (.int vi2), .val (.ref b3), .val (.int vi24), .val (.int z26_S0), .val (.int vi28), .val (.ref b29), .val (.int vi63)] [(.int vi1), (.int z26_S0), (.int vi2), (.int (13 : Int32)), (.ref b29)]))
      refine own_go (fun t_ k => XS.iload X91.here hx rfl (hb hby at_492) rfl k) ?_
      show WP p e below _ (T91.setTop (mkF m 494 #[.val (.int p1), .val (.int p2), .val (.int p3), .val (.int p4), .val (.int vi1), .val (.int vi2), .val (.ref b3), .val (.int vi24), .val (.int z26_S0), .val (.int vi28), .val (.ref b29), .val (.int vi63)] [(.int vi28), (.int vi1), (.int z26_S0), (.int vi2), (.int (13 : Int32)), (.ref b29)]))
      refine own_go (fun t_ k => XS.aload X91.here hx rfl (hb hby at_494) rfl rfl k) ?_
      show WP p e below _ (T91.setTop (mkF m 496 #[.val (.int p1), .val (.int p2), .val (.int p3), .val (.int p4), .val (.int vi1), .val (.int vi2), .val (.ref b3), .val (.int vi24), .val (.int z26_S0), .val (.int vi28), .val (.ref b29), .val (.int vi63)] [(.ref b3), (.int vi28), (.int vi1), (.int z26_S0), (.int vi2), (.int (13 : Int32)), (.ref b29)]))
      obtain ⟨_, T93, Lc93, X93, hQ93, st93⟩ := own_un X91 0 0 (Jvm.LawKit.callS X91 hx (y := (⟨"com/example/bittern/bittern/DigitsPutPinLaw", "at", "([BIIIIB[I)Z"⟩ : MethodName)) hown (mvT hZ (hw _ (List.mem_of_getElem? (i := 16) rfl))) (mvT hZ (hw _ (List.mem_of_getElem? (i := 17) rfl))) (mvT hZ (hw _ (List.mem_of_getElem? (i := 18) rfl))) (mvT hZ (hw _ (List.mem_of_getElem? (i := 19) rfl))) (by decide) (backOf (W := 0) (rm2 l Z a0 hw [] b29 (13 : Int32) vi2 z26_S0 vi1 vi28 b3 k29 k3 (putL P [(vi28.toInt8.toInt32), (vi28.toInt8.toInt32), (vi28.toInt8.toInt32), (vi28.toInt8.toInt32), (vi28.toInt8.toInt32), (vi28.toInt8.toInt32), (vi28.toInt8.toInt32), (vi28.toInt8.toInt32), (vi28.toInt8.toInt32), (vi28.toInt8.toInt32), (vi28.toInt8.toInt32), (vi28.toInt8.toInt32), (vi28.toInt8.toInt32), (vi28.toInt8.toInt32), (vi28.toInt8.toInt32), (vi28.toInt8.toInt32)] z26_S0.toInt.toNat M) T62.heap n0 Vp62 ((((((((((((((((((V23.ext E29).other W31 ne_b3_b29).other W33 ne_b3_b29).other W35 ne_b3_b29).other W37 ne_b3_b29).other W39 ne_b3_b29).other W41 ne_b3_b29).other W43 ne_b3_b29).other W45 ne_b3_b29).other W47 ne_b3_b29).other W49 ne_b3_b29).other W51 ne_b3_b29).other W53 ne_b3_b29).other W55 ne_b3_b29).other W57 ne_b3_b29).other W59 ne_b3_b29).other W61 ne_b3_b29).keep K62c (ninS ne_b3_b29 nin0)) (by decide) (own_A hspec hP hM hP3 hM5 (13 : Int32) (by decide) (by decide)) (own_C hspec hP hM hP3 hM5 (own_num he24 hz26_S0) (13 : Int32) (by decide) (by decide))) hZ (hw _ (List.mem_of_getElem? (i := 19) rfl)) (hw _ (List.mem_of_getElem? (i := 18) rfl)) (by decide) (by decide)) (g := (mkF m 496 #[.val (.int p1), .val (.int p2), .val (.int p3), .val (.int p4), .val (.int vi1), .val (.int vi2), .val (.ref b3), .val (.int vi24), .val (.int z26_S0), .val (.int vi28), .val (.ref b29), .val (.int vi63)] [(.ref b3), (.int vi28), (.int vi1), (.int z26_S0), (.int vi2), (.int (13 : Int32)), (.ref b29)])) rfl (by rw [hml]; rfl) (argsL := [(.ref b29), (.int (13 : Int32)), (.int vi2), (.int z26_S0), (.int vi1), (.int vi28), (.ref b3)]) (rest := []) (lenOf pd_1 rfl) rfl (by show 2 * 0 + _ ≤ _; exact Nat.le_of_eq rfl) (hb hby at_496) (fun _ _ => ⟨rfl, e91, (by decide : 2 + 0 ≤ _), (by decide : 26 + 0 ≤ _)⟩))
      dsimp only [Pt.U] at st93
      obtain ⟨rfl, N93q, e93⟩ := hQ93
      have N93 := Fr.app N91 N93q
      replace X93 : Stand p l e room_1 s m _ below meth c T93 _ 2 26 := X93
      refine own_go st93 ?_
      show WP p e below _ (T93.setTop (mkF m 499 #[.val (.int p1), .val (.int p2), .val (.int p3), .val (.int p4), .val (.int vi1), .val (.int vi2), .val (.ref b3), .val (.int vi24), .val (.int z26_S0), .val (.int vi28), .val (.ref b29), .val (.int vi63)] [(.int (1 : Int32))]))
      have hc499_94 : ¬ ((1 : Int32) = (0 : Int32)) := by decide
      refine own_go (fun t_ k => XS.ifNo X93.here hx rfl (hb hby at_499) rfl ((if0 _ _).trans (feq hc499_94).1) k) ?_
      show WP p e below _ (T93.setTop (mkF m 502 #[.val (.int p1), .val (.int p2), .val (.int p3), .val (.int p4), .val (.int vi1), .val (.int vi2), .val (.ref b3), .val (.int vi24), .val (.int z26_S0), .val (.int vi28), .val (.ref b29), .val (.int vi63)] []))
      refine own_go (fun t_ k => XS.aload X93.here hx rfl (hb hby at_502) rfl rfl k) ?_
      show WP p e below _ (T93.setTop (mkF m 504 #[.val (.int p1), .val (.int p2), .val (.int p3), .val (.int p4), .val (.int vi1), .val (.int vi2), .val (.ref b3), .val (.int vi24), .val (.int z26_S0), .val (.int vi28), .val (.ref b29), .val (.int vi63)] [(.ref b29)]))
      refine own_go (fun t_ k => XS.bipush X93.here hx rfl (hb hby at_504) k) ?_
      show WP p e below _ (T93.setTop (mkF m 506 #[.val (.int p1), .val (.int p2), .val (.int p3), .val (.int p4), .val (.int vi1), .val (.int vi2), .val (.ref b3), .val (.int vi24), .val (.int z26_S0), .val (.int vi28), .val (.ref b29), .val (.int vi63)] [(.int (14 : Int32)), (.ref b29)]))
      refine own_go (fun t_ k => XS.iload X93.here hx rfl (hb hby at_506) rfl k) ?_
      show WP p e below _ (T93.setTop (mkF m 508 #[.val (.int p1), .val (.int p2), .val (.int p3), .val (.int p4), .val (.int vi1), .val (.int vi2), .val (.ref b3), .val (.int vi24), .val (.int z26_S0), .val (.int vi28), .val (.ref b29), .val (.int vi63)] [(.int vi2), (.int (14 : Int32)), (.ref b29)]))
      refine own_go (fun t_ k => XS.iload X93.here hx rfl (hb hby at_508) rfl k) ?_
      show WP p e below _ (T93.setTop (mkF m 510 #[.val (.int p1), .val (.int p2), .val (.int p3), .val (.int p4), .val (.int vi1), .val (.int vi2), .val (.ref b3), .val (.int vi24), .val (.int z26_S0), .val (.int vi28), .val (.ref b29), .val (.int vi63)] [(.int z26_S0), (.int vi2), (.int (14 : Int32)), (.ref b29)]))
      refine own_go (fun t_ k => XS.iload X93.here hx rfl (hb hby at_510) rfl k) ?_
      show WP p e below _ (T93.setTop (mkF m 512 #[.val (.int p1), .val (.int p2), .val (.int p3), .val (.int p4), .val (.int vi1), .val (.int vi2), .val (.ref b3), .val (.int vi24), .val (.int z26_S0), .val (.int vi28), .val (.ref b29), .val (.int vi63)] [(.int vi1), (.int z26_S0), (.int vi2), (.int (14 : Int32)), (.ref b29)]))
      refine own_go (fun t_ k => XS.iload X93.here hx rfl (hb hby at_512) rfl k) ?_
      show WP p e below _ (T93.setTop (mkF m 514 #[.val (.int p1), .val (.int p2), .val (.int p3), .val (.int p4), .val (.int vi1), .val (.int vi2), .val (.ref b3), .val (.int vi24), .val (.int z26_S0), .val (.int vi28), .val (.ref b29), .val (.int vi63)] [(.int vi28), (.int vi1), (.int z26_S0), (.int vi2), (.int (14 : Int32)), (.ref b29)]))
      refine own_go (fun t_ k => XS.aload X93.here hx rfl (hb hby at_514) rfl rfl k) ?_
      show WP p e below _ (T93.setTop (mkF m 516 #[.val (.int p1), .val (.int p2), .val (.int p3), .val (.int p4), .val (.int vi1), .val (.int vi2), .val (.ref b3), .val (.int vi24), .val (.int z26_S0), .val (.int vi28), .val (.ref b29), .val (.int vi63)] [(.ref b3), (.int vi28), (.int vi1), (.int z26_S0), (.int vi2), (.int (14 : Int32)), (.ref b29)]))
      obtain ⟨_, T95, Lc95, X95, hQ95, st95⟩ := own_un X93 0 0 (Jvm.LawKit.callS X93 hx (y := (⟨"com/example/bittern/bittern/DigitsPutPinLaw", "at", "([BIIIIB[I)Z"⟩ : MethodName)) hown (mvT hZ (hw _ (List.mem_of_getElem? (i := 16) rfl))) (mvT hZ (hw _ (List.mem_of_getElem? (i := 17) rfl))) (mvT hZ (hw _ (List.mem_of_getElem? (i := 18) rfl))) (mvT hZ (hw _ (List.mem_of_getElem? (i := 19) rfl))) (by decide) (backOf (W := 0) (rm2 l Z a0 hw [] b29 (14 : Int32) vi2 z26_S0 vi1 vi28 b3 k29 k3 (putL P [(vi28.toInt8.toInt32), (vi28.toInt8.toInt32), (vi28.toInt8.toInt32), (vi28.toInt8.toInt32), (vi28.toInt8.toInt32), (vi28.toInt8.toInt32), (vi28.toInt8.toInt32), (vi28.toInt8.toInt32), (vi28.toInt8.toInt32), (vi28.toInt8.toInt32), (vi28.toInt8.toInt32), (vi28.toInt8.toInt32), (vi28.toInt8.toInt32), (vi28.toInt8.toInt32), (vi28.toInt8.toInt32), (vi28.toInt8.toInt32)] z26_S0.toInt.toNat M) T62.heap n0 Vp62 ((((((((((((((((((V23.ext E29).other W31 ne_b3_b29).other W33 ne_b3_b29).other W35 ne_b3_b29).other W37 ne_b3_b29).other W39 ne_b3_b29).other W41 ne_b3_b29).other W43 ne_b3_b29).other W45 ne_b3_b29).other W47 ne_b3_b29).other W49 ne_b3_b29).other W51 ne_b3_b29).other W53 ne_b3_b29).other W55 ne_b3_b29).other W57 ne_b3_b29).other W59 ne_b3_b29).other W61 ne_b3_b29).keep K62c (ninS ne_b3_b29 nin0)) (by decide) (own_A hspec hP hM hP3 hM5 (14 : Int32) (by decide) (by decide)) (own_C hspec hP hM hP3 hM5 (own_num he24 hz26_S0) (14 : Int32) (by decide) (by decide))) hZ (hw _ (List.mem_of_getElem? (i := 19) rfl)) (hw _ (List.mem_of_getElem? (i := 18) rfl)) (by decide) (by decide)) (g := (mkF m 516 #[.val (.int p1), .val (.int p2), .val (.int p3), .val (.int p4), .val (.int vi1), .val (.int vi2), .val (.ref b3), .val (.int vi24), .val (.int z26_S0), .val (.int vi28), .val (.ref b29), .val (.int vi63)] [(.ref b3), (.int vi28), (.int vi1), (.int z26_S0), (.int vi2), (.int (14 : Int32)), (.ref b29)])) rfl (by rw [hml]; rfl) (argsL := [(.ref b29), (.int (14 : Int32)), (.int vi2), (.int z26_S0), (.int vi1), (.int vi28), (.ref b3)]) (rest := []) (lenOf pd_1 rfl) rfl (by show 2 * 0 + _ ≤ _; exact Nat.le_of_eq rfl) (hb hby at_516) (fun _ _ => ⟨rfl, e93, (by decide : 2 + 0 ≤ _), (by decide : 26 + 0 ≤ _)⟩))
      dsimp only [Pt.U] at st95
      obtain ⟨rfl, N95q, e95⟩ := hQ95
      have N95 := Fr.app N93 N95q
      replace X95 : Stand p l e room_1 s m _ below meth c T95 _ 2 26 := X95
      refine own_go st95 ?_
      show WP p e below _ (T95.setTop (mkF m 519 #[.val (.int p1), .val (.int p2), .val (.int p3), .val (.int p4), .val (.int vi1), .val (.int vi2), .val (.ref b3), .val (.int vi24), .val (.int z26_S0), .val (.int vi28), .val (.ref b29), .val (.int vi63)] [(.int (1 : Int32))]))
      have hc519_96 : ¬ ((1 : Int32) = (0 : Int32)) := by decide
      refine own_go (fun t_ k => XS.ifNo X95.here hx rfl (hb hby at_519) rfl ((if0 _ _).trans (feq hc519_96).1) k) ?_
      show WP p e below _ (T95.setTop (mkF m 522 #[.val (.int p1), .val (.int p2), .val (.int p3), .val (.int p4), .val (.int vi1), .val (.int vi2), .val (.ref b3), .val (.int vi24), .val (.int z26_S0), .val (.int vi28), .val (.ref b29), .val (.int vi63)] []))
      refine own_go (fun t_ k => XS.aload X95.here hx rfl (hb hby at_522) rfl rfl k) ?_
      show WP p e below _ (T95.setTop (mkF m 524 #[.val (.int p1), .val (.int p2), .val (.int p3), .val (.int p4), .val (.int vi1), .val (.int vi2), .val (.ref b3), .val (.int vi24), .val (.int z26_S0), .val (.int vi28), .val (.ref b29), .val (.int vi63)] [(.ref b29)]))
      refine own_go (fun t_ k => XS.bipush X95.here hx rfl (hb hby at_524) k) ?_
      show WP p e below _ (T95.setTop (mkF m 526 #[.val (.int p1), .val (.int p2), .val (.int p3), .val (.int p4), .val (.int vi1), .val (.int vi2), .val (.ref b3), .val (.int vi24), .val (.int z26_S0), .val (.int vi28), .val (.ref b29), .val (.int vi63)] [(.int (15 : Int32)), (.ref b29)]))
      refine own_go (fun t_ k => XS.iload X95.here hx rfl (hb hby at_526) rfl k) ?_
      show WP p e below _ (T95.setTop (mkF m 528 #[.val (.int p1), .val (.int p2), .val (.int p3), .val (.int p4), .val (.int vi1), .val (.int vi2), .val (.ref b3), .val (.int vi24), .val (.int z26_S0), .val (.int vi28), .val (.ref b29), .val (.int vi63)] [(.int vi2), (.int (15 : Int32)), (.ref b29)]))
      refine own_go (fun t_ k => XS.iload X95.here hx rfl (hb hby at_528) rfl k) ?_
      show WP p e below _ (T95.setTop (mkF m 530 #[.val (.int p1), .val (.int p2), .val (.int p3), .val (.int p4), .val (.int vi1), .val (.int vi2), .val (.ref b3), .val (.int vi24), .val (.int z26_S0), .val (.int vi28), .val (.ref b29), .val (.int vi63)] [(.int z26_S0), (.int vi2), (.int (15 : Int32)), (.ref b29)]))
      refine own_go (fun t_ k => XS.iload X95.here hx rfl (hb hby at_530) rfl k) ?_
      show WP p e below _ (T95.setTop (mkF m 532 #[.val (.int p1), .val (.int p2), .val (.int p3), .val (.int p4), .val (.int vi1), .val (.int vi2), .val (.ref b3), .val (.int vi24), .val (.int z26_S0), .val (.int vi28), .val (.ref b29), .val (.int vi63)] [(.int vi1), (.int z26_S0), (.int vi2), (.int (15 : Int32)), (.ref b29)]))
      refine own_go (fun t_ k => XS.iload X95.here hx rfl (hb hby at_532) rfl k) ?_
      show WP p e below _ (T95.setTop (mkF m 534 #[.val (.int p1), .val (.int p2), .val (.int p3), .val (.int p4), .val (.int vi1), .val (.int vi2), .val (.ref b3), .val (.int vi24), .val (.int z26_S0), .val (.int vi28), .val (.ref b29), .val (.int vi63)] [(.int vi28), (.int vi1), (.int z26_S0), (.int vi2), (.int (15 : Int32)), (.ref b29)]))
      refine own_go (fun t_ k => XS.aload X95.here hx rfl (hb hby at_534) rfl rfl k) ?_
      show WP p e below _ (T95.setTop (mkF m 536 #[.val (.int p1), .val (.int p2), .val (.int p3), .val (.int p4), .val (.int vi1), .val (.int vi2), .val (.ref b3), .val (.int vi24), .val (.int z26_S0), .val (.int vi28), .val (.ref b29), .val (.int vi63)] [(.ref b3), (.int vi28), (.int vi1), (.int z26_S0), (.int vi2), (.int (15 : Int32)), (.ref b29)]))
      obtain ⟨_, T97, Lc97, X97, hQ97, st97⟩ := own_un X95 0 0 (Jvm.LawKit.callS X95 hx (y := (⟨"com/example/bittern/bittern/DigitsPutPinLaw", "at", "([BIIIIB[I)Z"⟩ : MethodName)) hown (mvT hZ (hw _ (List.mem_of_getElem? (i := 16) rfl))) (mvT hZ (hw _ (List.mem_of_getElem? (i := 17) rfl))) (mvT hZ (hw _ (List.mem_of_getElem? (i := 18) rfl))) (mvT hZ (hw _ (List.mem_of_getElem? (i := 19) rfl))) (by decide) (backOf (W := 0) (rm2 l Z a0 hw [] b29 (15 : Int32) vi2 z26_S0 vi1 vi28 b3 k29 k3 (putL P [(vi28.toInt8.toInt32), (vi28.toInt8.toInt32), (vi28.toInt8.toInt32), (vi28.toInt8.toInt32), (vi28.toInt8.toInt32), (vi28.toInt8.toInt32), (vi28.toInt8.toInt32), (vi28.toInt8.toInt32), (vi28.toInt8.toInt32), (vi28.toInt8.toInt32), (vi28.toInt8.toInt32), (vi28.toInt8.toInt32), (vi28.toInt8.toInt32), (vi28.toInt8.toInt32), (vi28.toInt8.toInt32), (vi28.toInt8.toInt32)] z26_S0.toInt.toNat M) T62.heap n0 Vp62 ((((((((((((((((((V23.ext E29).other W31 ne_b3_b29).other W33 ne_b3_b29).other W35 ne_b3_b29).other W37 ne_b3_b29).other W39 ne_b3_b29).other W41 ne_b3_b29).other W43 ne_b3_b29).other W45 ne_b3_b29).other W47 ne_b3_b29).other W49 ne_b3_b29).other W51 ne_b3_b29).other W53 ne_b3_b29).other W55 ne_b3_b29).other W57 ne_b3_b29).other W59 ne_b3_b29).other W61 ne_b3_b29).keep K62c (ninS ne_b3_b29 nin0)) (by decide) (own_A hspec hP hM hP3 hM5 (15 : Int32) (by decide) (by decide)) (own_C hspec hP hM hP3 hM5 (own_num he24 hz26_S0) (15 : Int32) (by decide) (by decide))) hZ (hw _ (List.mem_of_getElem? (i := 19) rfl)) (hw _ (List.mem_of_getElem? (i := 18) rfl)) (by decide) (by decide)) (g := (mkF m 536 #[.val (.int p1), .val (.int p2), .val (.int p3), .val (.int p4), .val (.int vi1), .val (.int vi2), .val (.ref b3), .val (.int vi24), .val (.int z26_S0), .val (.int vi28), .val (.ref b29), .val (.int vi63)] [(.ref b3), (.int vi28), (.int vi1), (.int z26_S0), (.int vi2), (.int (15 : Int32)), (.ref b29)])) rfl (by rw [hml]; rfl) (argsL := [(.ref b29), (.int (15 : Int32)), (.int vi2), (.int z26_S0), (.int vi1), (.int vi28), (.ref b3)]) (rest := []) (lenOf pd_1 rfl) rfl (by show 2 * 0 + _ ≤ _; exact Nat.le_of_eq rfl) (hb hby at_536) (fun _ _ => ⟨rfl, e95, (by decide : 2 + 0 ≤ _), (by decide : 26 + 0 ≤ _)⟩))
      dsimp only [Pt.U] at st97
      obtain ⟨rfl, N97q, e97⟩ := hQ97
      have N97 := Fr.app N95 N97q
      replace X97 : Stand p l e room_1 s m _ below meth c T97 _ 2 26 := X97
      refine own_go st97 ?_
      show WP p e below _ (T97.setTop (mkF m 539 #[.val (.int p1), .val (.int p2), .val (.int p3), .val (.int p4), .val (.int vi1), .val (.int vi2), .val (.ref b3), .val (.int vi24), .val (.int z26_S0), .val (.int vi28), .val (.ref b29), .val (.int vi63)] [(.int (1 : Int32))]))
      have hc539_98 : ¬ ((1 : Int32) = (0 : Int32)) := by decide
      refine own_go (fun t_ k => XS.ifNo X97.here hx rfl (hb hby at_539) rfl ((if0 _ _).trans (feq hc539_98).1) k) ?_
      show WP p e below _ (T97.setTop (mkF m 542 #[.val (.int p1), .val (.int p2), .val (.int p3), .val (.int p4), .val (.int vi1), .val (.int vi2), .val (.ref b3), .val (.int vi24), .val (.int z26_S0), .val (.int vi28), .val (.ref b29), .val (.int vi63)] []))
      refine own_go (fun t_ k => XS.iconst X97.here hx rfl (hb hby at_542) k) ?_
      show WP p e below _ (T97.setTop (mkF m 543 #[.val (.int p1), .val (.int p2), .val (.int p3), .val (.int p4), .val (.int vi1), .val (.int vi2), .val (.ref b3), .val (.int vi24), .val (.int z26_S0), .val (.int vi28), .val (.ref b29), .val (.int vi63)] [(.int (1 : Int32))]))
      refine own_go (fun t_ k => XS.goto X97.here hx rfl (pc0 := 543) (pc' := 547) rfl (hb hby at_543) (by decide) (by decide) k) ?_
      show WP p e below _ (T97.setTop (mkF m 547 #[.val (.int p1), .val (.int p2), .val (.int p3), .val (.int p4), .val (.int vi1), .val (.int vi2), .val (.ref b3), .val (.int vi24), .val (.int z26_S0), .val (.int vi28), .val (.ref b29), .val (.int vi63)] [(.int (1 : Int32))]))
      exact J66 T97 _ X97 N97 e97 _ (by rw [if_pos hc225_64])
    · refine own_go (fun t_ k => XS.icmpYes X62.here hx rfl (pc0 := 225) (pc' := 546) rfl (hb hby at_225) rfl (feq hc225_64).2 (by decide) (by decide) k) ?_
      show WP p e below _ (T62.setTop (mkF m 546 #[.val (.int p1), .val (.int p2), .val (.int p3), .val (.int p4), .val (.int vi1), .val (.int vi2), .val (.ref b3), .val (.int vi24), .val (.int z26_S0), .val (.int vi28), .val (.ref b29), .val (.int vi63)] []))
      refine own_go (fun t_ k => XS.iconst X62.here hx rfl (hb hby at_546) k) ?_
      show WP p e below _ (T62.setTop (mkF m 547 #[.val (.int p1), .val (.int p2), .val (.int p3), .val (.int p4), .val (.int vi1), .val (.int vi2), .val (.ref b3), .val (.int vi24), .val (.int z26_S0), .val (.int vi28), .val (.ref b29), .val (.int vi63)] [(.int (0 : Int32))]))
      exact J66 T62 _ X62 N62 rfl _ (by rw [if_neg hc225_64])
  by_cases hc87_25 : vi1 = (10 : Int32)
  · refine own_go (fun t_ k => XS.icmpNo X23.here hx rfl (hb hby at_87) rfl (teq hc87_25).2 k) ?_
    show WP p e below _ (T23.setTop (mkF m 90 #[.val (.int p1), .val (.int p2), .val (.int p3), .val (.int p4), .val (.int vi1), .val (.int vi2), .val (.ref b3), .val (.int vi24), .unset, .unset, .unset, .unset] []))
    refine own_go (fun t_ k => XS.iload X23.here hx rfl (hb hby at_90) rfl k) ?_
    show WP p e below _ (T23.setTop (mkF m 92 #[.val (.int p1), .val (.int p2), .val (.int p3), .val (.int p4), .val (.int vi1), .val (.int vi2), .val (.ref b3), .val (.int vi24), .unset, .unset, .unset, .unset] [(.int vi24)]))
    refine own_go (fun t_ k => XS.goto X23.here hx rfl (pc0 := 92) (pc' := 103) rfl (hb hby at_92) (by decide) (by decide) k) ?_
    show WP p e below _ (T23.setTop (mkF m 103 #[.val (.int p1), .val (.int p2), .val (.int p3), .val (.int p4), .val (.int vi1), .val (.int vi2), .val (.ref b3), .val (.int vi24), .unset, .unset, .unset, .unset] [(.int vi24)]))
    exact J27 T23 _ X23 N23 e23 _ (by rw [if_pos hc87_25])
  · refine own_go (fun t_ k => XS.icmpYes X23.here hx rfl (pc0 := 87) (pc' := 95) rfl (hb hby at_87) rfl (feq hc87_25).2 (by decide) (by decide) k) ?_
    show WP p e below _ (T23.setTop (mkF m 95 #[.val (.int p1), .val (.int p2), .val (.int p3), .val (.int p4), .val (.int vi1), .val (.int vi2), .val (.ref b3), .val (.int vi24), .unset, .unset, .unset, .unset] []))
    refine own_go (fun t_ k => XS.iload X23.here hx rfl (hb hby at_95) rfl k) ?_
    show WP p e below _ (T23.setTop (mkF m 97 #[.val (.int p1), .val (.int p2), .val (.int p3), .val (.int p4), .val (.int vi1), .val (.int vi2), .val (.ref b3), .val (.int vi24), .unset, .unset, .unset, .unset] [(.int vi24)]))
    refine own_go (fun t_ k => XS.aload X23.here hx rfl (hb hby at_97) rfl rfl k) ?_
    show WP p e below _ (T23.setTop (mkF m 99 #[.val (.int p1), .val (.int p2), .val (.int p3), .val (.int p4), .val (.int vi1), .val (.int vi2), .val (.ref b3), .val (.int vi24), .unset, .unset, .unset, .unset] [(.ref b3), (.int vi24)]))
    refine own_go (fun t_ k => XS.iload X23.here hx rfl (hb hby at_99) rfl k) ?_
    show WP p e below _ (T23.setTop (mkF m 101 #[.val (.int p1), .val (.int p2), .val (.int p3), .val (.int p4), .val (.int vi1), .val (.int vi2), .val (.ref b3), .val (.int vi24), .unset, .unset, .unset, .unset] [(.int vi1), (.ref b3), (.int vi24)]))
    obtain ⟨cl99, Ar99, -, S99, M99, H99, -⟩ := id (V23)
    have hin99 : ¬ (vi1 < 0 ∨ cl99.slots.size ≤ (vi1).toNatClampNeg) := inb_of S99 ((own_win hM hM5 hc87_25).1)
    refine own_go (fun t_ k => X23.iaload hx (j := vi1) (v := (.int (powL.getD vi1.toNatClampNeg 0))) (by rw [e23]; exact Ar99.1) (State.isArrayOf_alike hZ.alike Ar99.2.1) Ar99.2.2 hin99 (H99.at hin99 (own_at powL _)) (g := (mkF m 101 #[.val (.int p1), .val (.int p2), .val (.int p3), .val (.int p4), .val (.int vi1), .val (.int vi2), .val (.ref b3), .val (.int vi24), .unset, .unset, .unset, .unset] [(.int vi1), (.ref b3), (.int vi24)])) rfl rfl (hb hby at_101) _ k) ?_
    show WP p e below _ (T23.setTop (mkF m 102 #[.val (.int p1), .val (.int p2), .val (.int p3), .val (.int p4), .val (.int vi1), .val (.int vi2), .val (.ref b3), .val (.int vi24), .unset, .unset, .unset, .unset] [(.int (powL.getD vi1.toNatClampNeg 0)), (.int vi24)]))
    refine own_go (fun t_ k => iremM X23 hx rfl (hb hby at_102) rfl (own_pw _ (own_win hM hM5 hc87_25).2).2.1 k) ?_
    show WP p e below _ (T23.setTop (mkF m 103 #[.val (.int p1), .val (.int p2), .val (.int p3), .val (.int p4), .val (.int vi1), .val (.int vi2), .val (.ref b3), .val (.int vi24), .unset, .unset, .unset, .unset] [(.int (vi24 % (powL.getD vi1.toNatClampNeg 0)))]))
    exact J27 T23 _ X23 N23 e23 _ (by rw [if_neg hc87_25])
theorem own_arr {s : State} {args : Array Value} {t : Term} {u : Addr} {cl : Cell} {xs : List Int32} (hfit : Fit s) (A : Arr s s.heap u cl .byte) (eu : t.eval args s none [] s = some (.ref u)) (h : (Cond.eq (Term.length t) (Term.int (100 : Int32))).value args s none s [] = some true) (hx : xs.length = 100) (hv : ∀ j, j < 100 → cl.slots.size = 100 → cl.slots[j]? = some (.int (xs.getD j 0))) : Arv s s.heap u cl.cls .byte (100 : Int32) (xs.map Value.int) (.int (0 : Int32)) := by
  have hl : (Term.length t).eval args s none [] s = some (.int (100 : Int32)) := Cond.eq_int (beq_iff_eq.mpr h) rfl
  have ha : s.arrayAt? u = some cl := A.fin (Vm.Alike.refl _)
  by_cases q : cl.slots.size < 2 ^ 31
  · have e := len_f eu ha q
    have e2 : cl.slots.size.toInt32 = (100 : Int32) := by
      have := e.symm.trans hl
      injection this with this
      injection this
    have e3 : cl.slots.size = 100 := by
      have := congrArg Int32.toInt e2
      rw [len_toInt q] at this
      have o : (100 : Int32).toInt = 100 := rfl
      omega
    have H : Has cl (xs.map Value.int) (.int (0 : Int32)) := fun k hk => by rw [own_at]; exact hv k (by omega) e3
    refine ⟨cl, A, rfl, by rw [e3]; rfl, by decide, H, fun j hj => ?_⟩
    have e1 : (Nat.toInt32 j).toNatClampNeg = j := by simp only [Int32.toNatClampNeg, len_toInt (Nat.lt_trans hj q)]; rfl
    exact elem_fits (j := Nat.toInt32 j) hfit A (idx_in hj q) (by rw [e1]; exact H j hj)
  · exfalso
    simp [Term.eval, eu, ha, q] at hl
theorem own_el {s : State} {args : Array Value} {t : Term} {u : Addr} {cl : Cell} {G : Cond} (A : Arr s s.heap u cl .byte) (eu : ∀ idx, t.eval args s none idx s = some (.ref u)) (h : (Cond.all t G).value args s none s [] = some true) (e3 : cl.slots.size = 100) {j : Nat} (hj : j < 100) : G.value args s none s [j] = some true := Cond.all_elim (eu []) (A.fin (Vm.Alike.refl _)) h j (by omega)
theorem own_ix2 {s : State} {args : Array Value} {j : Nat} (hj : j < 100) : (Term.index 0).eval args s none [j] s = some (.int (Int32.ofNat j)) := Term.index_eval _
theorem own_elem {s : State} {args : Array Value} {t : Term} {u : Addr} {cl : Cell} (A : Arr s s.heap u cl .byte) (eu : ∀ idx, t.eval args s none idx s = some (.ref u)) {j : Nat} (hj : j < 100) : (Term.elem t (Term.index 0)).eval args s none [j] s = cl.slots[j]? := by
  have e : (Int32.ofNat j).toInt = j := Int32.toInt_ofNat_small (by omega)
  rw [elem_f (eu [j]) (own_ix2 hj) (A.fin (Vm.Alike.refl _)) (by rw [Int32.lt_iff_toInt_lt, e]; show ¬ (j : Int) < 0; omega)]
  congr 1
  simp only [Int32.toNatClampNeg, e]; omega
theorem own_or1 {args : Array Value} {s : State} {idx : List Nat} {A B : Cond} (h : (Cond.or A B).value args s none s idx = some true) (hA : A.value args s none s idx = some false) : B.value args s none s idx = some true := by
  simpa [Cond.value, hA] using h
theorem own_long {s : State} {args : Array Value} {t : Term} {u : Addr} {cl : Cell} {c : Int64} {w : Int32} (A : Arr s s.heap u cl .byte) {j : Nat} (el : (Term.elem t (Term.index 0)).eval args s none [j] s = cl.slots[j]?) (ix : (Term.index 0).eval args s none [j] s = some (.int (Int32.ofNat j))) (hj : j < 100)
    (q : (Cond.eq (Term.op1 Unary.i2l (Term.elem t (Term.index 0))) (Term.op2 Binary.ladd (Term.op1 Unary.i2l (Term.index 0)) (Term.long c))).value args s none s [j] = some true) (hw : w.toInt = j + c.toInt) : cl.slots[j]? = some (.int w) := by
  have e1 : (Term.op1 Unary.i2l (Term.index 0)).eval args s none [j] s = some (.long (Int32.ofNat j).toInt64) := (op1_f ix).trans rfl
  have e2 : (Term.op2 Binary.ladd (Term.op1 Unary.i2l (Term.index 0)) (Term.long c)).eval args s none [j] s = some (.long ((Int32.ofNat j).toInt64 + c)) := (op2_f e1 rfl).trans rfl
  cases hc : cl.slots[j]? with
  | none =>
    rw [hc] at el
    have e3 : (Term.op1 Unary.i2l (Term.elem t (Term.index 0))).eval args s none [j] s = none := by rw [Term.eval, el]; rfl
    simp [Cond.value, e3] at q
  | some v =>
    rw [hc] at el
    have e3 := op1_f (f := Unary.i2l) el
    cases v with
    | int x =>
      have e4 : (Term.op1 Unary.i2l (Term.elem t (Term.index 0))).eval args s none [j] s = some (.long x.toInt64) := e3.trans rfl
      have z := gotT (eq_L e4 e2) q
      have z1 := congrArg Int64.toInt z
      have ej : (Int32.ofNat j).toInt = j := Int32.toInt_ofNat_small (by omega)
      have a1 := c_i2l x
      have a2 := c_i2l (Int32.ofNat j)
      have a3 := c_ladd (Int32.ofNat j).toInt64 c
      have r1 := rng32 x
      have r2 := rng32 w
      have : x = w := Int32.toInt_inj.mp (by omega)
      rw [this]
    | _ => exfalso; have e5 := e3.trans (show _ = none from rfl); simp [Cond.value, e5, e2] at q
theorem own_tlv {s : State} {args : Array Value} {u : Addr} {cl : Cell} (A : Arr s s.heap u cl .byte) (eu : ∀ idx, (Term.static "com/example/bittern/bittern/Digits" "TENS" "[B").eval args s none idx s = some (.ref u)) (e3 : cl.slots.size = 100) {j : Nat} (hj : j < 100)
    (h0 : ((Jvm.Cond.all (Jvm.Term.static "com/example/bittern/bittern/Digits" "TENS" "[B") (Jvm.Cond.or (Jvm.Cond.le (Jvm.Term.int (10 : Int32)) (Jvm.Term.index (0 : Nat))) (Jvm.Cond.eq (Jvm.Term.elem (Jvm.Term.static "com/example/bittern/bittern/Digits" "TENS" "[B") (Jvm.Term.index (0 : Nat))) (Jvm.Term.int (48 : Int32)))))).value args s none s [] = some true)
    (h1 : ((Jvm.Cond.all (Jvm.Term.static "com/example/bittern/bittern/Digits" "TENS" "[B") (Jvm.Cond.or (Jvm.Cond.lt (Jvm.Term.index (0 : Nat)) (Jvm.Term.int (10 : Int32))) (Jvm.Cond.or (Jvm.Cond.le (Jvm.Term.int (20 : Int32)) (Jvm.Term.index (0 : Nat))) (Jvm.Cond.eq (Jvm.Term.elem (Jvm.Term.static "com/example/bittern/bittern/Digits" "TENS" "[B") (Jvm.Term.index (0 : Nat))) (Jvm.Term.int (49 : Int32))))))).value args s none s [] = some true)
    (h2 : ((Jvm.Cond.all (Jvm.Term.static "com/example/bittern/bittern/Digits" "TENS" "[B") (Jvm.Cond.or (Jvm.Cond.lt (Jvm.Term.index (0 : Nat)) (Jvm.Term.int (20 : Int32))) (Jvm.Cond.or (Jvm.Cond.le (Jvm.Term.int (30 : Int32)) (Jvm.Term.index (0 : Nat))) (Jvm.Cond.eq (Jvm.Term.elem (Jvm.Term.static "com/example/bittern/bittern/Digits" "TENS" "[B") (Jvm.Term.index (0 : Nat))) (Jvm.Term.int (50 : Int32))))))).value args s none s [] = some true)
    (h3 : ((Jvm.Cond.all (Jvm.Term.static "com/example/bittern/bittern/Digits" "TENS" "[B") (Jvm.Cond.or (Jvm.Cond.lt (Jvm.Term.index (0 : Nat)) (Jvm.Term.int (30 : Int32))) (Jvm.Cond.or (Jvm.Cond.le (Jvm.Term.int (40 : Int32)) (Jvm.Term.index (0 : Nat))) (Jvm.Cond.eq (Jvm.Term.elem (Jvm.Term.static "com/example/bittern/bittern/Digits" "TENS" "[B") (Jvm.Term.index (0 : Nat))) (Jvm.Term.int (51 : Int32))))))).value args s none s [] = some true)
    (h4 : ((Jvm.Cond.all (Jvm.Term.static "com/example/bittern/bittern/Digits" "TENS" "[B") (Jvm.Cond.or (Jvm.Cond.lt (Jvm.Term.index (0 : Nat)) (Jvm.Term.int (40 : Int32))) (Jvm.Cond.or (Jvm.Cond.le (Jvm.Term.int (50 : Int32)) (Jvm.Term.index (0 : Nat))) (Jvm.Cond.eq (Jvm.Term.elem (Jvm.Term.static "com/example/bittern/bittern/Digits" "TENS" "[B") (Jvm.Term.index (0 : Nat))) (Jvm.Term.int (52 : Int32))))))).value args s none s [] = some true)
    (h5 : ((Jvm.Cond.all (Jvm.Term.static "com/example/bittern/bittern/Digits" "TENS" "[B") (Jvm.Cond.or (Jvm.Cond.lt (Jvm.Term.index (0 : Nat)) (Jvm.Term.int (50 : Int32))) (Jvm.Cond.or (Jvm.Cond.le (Jvm.Term.int (60 : Int32)) (Jvm.Term.index (0 : Nat))) (Jvm.Cond.eq (Jvm.Term.elem (Jvm.Term.static "com/example/bittern/bittern/Digits" "TENS" "[B") (Jvm.Term.index (0 : Nat))) (Jvm.Term.int (53 : Int32))))))).value args s none s [] = some true)
    (h6 : ((Jvm.Cond.all (Jvm.Term.static "com/example/bittern/bittern/Digits" "TENS" "[B") (Jvm.Cond.or (Jvm.Cond.lt (Jvm.Term.index (0 : Nat)) (Jvm.Term.int (60 : Int32))) (Jvm.Cond.or (Jvm.Cond.le (Jvm.Term.int (70 : Int32)) (Jvm.Term.index (0 : Nat))) (Jvm.Cond.eq (Jvm.Term.elem (Jvm.Term.static "com/example/bittern/bittern/Digits" "TENS" "[B") (Jvm.Term.index (0 : Nat))) (Jvm.Term.int (54 : Int32))))))).value args s none s [] = some true)
    (h7 : ((Jvm.Cond.all (Jvm.Term.static "com/example/bittern/bittern/Digits" "TENS" "[B") (Jvm.Cond.or (Jvm.Cond.lt (Jvm.Term.index (0 : Nat)) (Jvm.Term.int (70 : Int32))) (Jvm.Cond.or (Jvm.Cond.le (Jvm.Term.int (80 : Int32)) (Jvm.Term.index (0 : Nat))) (Jvm.Cond.eq (Jvm.Term.elem (Jvm.Term.static "com/example/bittern/bittern/Digits" "TENS" "[B") (Jvm.Term.index (0 : Nat))) (Jvm.Term.int (55 : Int32))))))).value args s none s [] = some true)
    (h8 : ((Jvm.Cond.all (Jvm.Term.static "com/example/bittern/bittern/Digits" "TENS" "[B") (Jvm.Cond.or (Jvm.Cond.lt (Jvm.Term.index (0 : Nat)) (Jvm.Term.int (80 : Int32))) (Jvm.Cond.or (Jvm.Cond.le (Jvm.Term.int (90 : Int32)) (Jvm.Term.index (0 : Nat))) (Jvm.Cond.eq (Jvm.Term.elem (Jvm.Term.static "com/example/bittern/bittern/Digits" "TENS" "[B") (Jvm.Term.index (0 : Nat))) (Jvm.Term.int (56 : Int32))))))).value args s none s [] = some true)
    (h9 : ((Jvm.Cond.all (Jvm.Term.static "com/example/bittern/bittern/Digits" "TENS" "[B") (Jvm.Cond.or (Jvm.Cond.lt (Jvm.Term.index (0 : Nat)) (Jvm.Term.int (90 : Int32))) (Jvm.Cond.eq (Jvm.Term.elem (Jvm.Term.static "com/example/bittern/bittern/Digits" "TENS" "[B") (Jvm.Term.index (0 : Nat))) (Jvm.Term.int (57 : Int32)))))).value args s none s [] = some true) :
    cl.slots[j]? = some (.int (TL.getD j 0)) := by
  have ej : (Int32.ofNat j).toInt = j := Int32.toInt_ofNat_small (by omega)
  have ix := own_ix2 (s := s) (args := args) hj
  have el := own_elem A eu hj
  rw [own_TL j hj]
  by_cases g0 : j < 10
  · have q := own_el A eu h0 e3 hj
    have q := own_or1 q ((Cond.le_ints (Term.int_eval _) ix).trans (by rw [decide_eq_false]; rw [Int32.le_iff_toInt_le, ej]; show ¬ (10 : Int) ≤ (j : Int); omega))
    rw [← el, show tT j = (48 : Int32) by rw [tT, show 48 + j / 10 = 48 by omega]; rfl]
    exact Cond.eq_int (beq_iff_eq.mpr q) rfl
  · by_cases g1 : j < 20
    · have q := own_el A eu h1 e3 hj
      have q := own_or1 q ((Cond.lt_ints ix (Term.int_eval _)).trans (by rw [decide_eq_false]; rw [Int32.lt_iff_toInt_lt, ej]; show ¬ (j : Int) < 10; omega))
      have q := own_or1 q ((Cond.le_ints (Term.int_eval _) ix).trans (by rw [decide_eq_false]; rw [Int32.le_iff_toInt_le, ej]; show ¬ (20 : Int) ≤ (j : Int); omega))
      rw [← el, show tT j = (49 : Int32) by rw [tT, show 48 + j / 10 = 49 by omega]; rfl]
      exact Cond.eq_int (beq_iff_eq.mpr q) rfl
    · by_cases g2 : j < 30
      · have q := own_el A eu h2 e3 hj
        have q := own_or1 q ((Cond.lt_ints ix (Term.int_eval _)).trans (by rw [decide_eq_false]; rw [Int32.lt_iff_toInt_lt, ej]; show ¬ (j : Int) < 20; omega))
        have q := own_or1 q ((Cond.le_ints (Term.int_eval _) ix).trans (by rw [decide_eq_false]; rw [Int32.le_iff_toInt_le, ej]; show ¬ (30 : Int) ≤ (j : Int); omega))
        rw [← el, show tT j = (50 : Int32) by rw [tT, show 48 + j / 10 = 50 by omega]; rfl]
        exact Cond.eq_int (beq_iff_eq.mpr q) rfl
      · by_cases g3 : j < 40
        · have q := own_el A eu h3 e3 hj
          have q := own_or1 q ((Cond.lt_ints ix (Term.int_eval _)).trans (by rw [decide_eq_false]; rw [Int32.lt_iff_toInt_lt, ej]; show ¬ (j : Int) < 30; omega))
          have q := own_or1 q ((Cond.le_ints (Term.int_eval _) ix).trans (by rw [decide_eq_false]; rw [Int32.le_iff_toInt_le, ej]; show ¬ (40 : Int) ≤ (j : Int); omega))
          rw [← el, show tT j = (51 : Int32) by rw [tT, show 48 + j / 10 = 51 by omega]; rfl]
          exact Cond.eq_int (beq_iff_eq.mpr q) rfl
        · by_cases g4 : j < 50
          · have q := own_el A eu h4 e3 hj
            have q := own_or1 q ((Cond.lt_ints ix (Term.int_eval _)).trans (by rw [decide_eq_false]; rw [Int32.lt_iff_toInt_lt, ej]; show ¬ (j : Int) < 40; omega))
            have q := own_or1 q ((Cond.le_ints (Term.int_eval _) ix).trans (by rw [decide_eq_false]; rw [Int32.le_iff_toInt_le, ej]; show ¬ (50 : Int) ≤ (j : Int); omega))
            rw [← el, show tT j = (52 : Int32) by rw [tT, show 48 + j / 10 = 52 by omega]; rfl]
            exact Cond.eq_int (beq_iff_eq.mpr q) rfl
          · by_cases g5 : j < 60
            · have q := own_el A eu h5 e3 hj
              have q := own_or1 q ((Cond.lt_ints ix (Term.int_eval _)).trans (by rw [decide_eq_false]; rw [Int32.lt_iff_toInt_lt, ej]; show ¬ (j : Int) < 50; omega))
              have q := own_or1 q ((Cond.le_ints (Term.int_eval _) ix).trans (by rw [decide_eq_false]; rw [Int32.le_iff_toInt_le, ej]; show ¬ (60 : Int) ≤ (j : Int); omega))
              rw [← el, show tT j = (53 : Int32) by rw [tT, show 48 + j / 10 = 53 by omega]; rfl]
              exact Cond.eq_int (beq_iff_eq.mpr q) rfl
            · by_cases g6 : j < 70
              · have q := own_el A eu h6 e3 hj
                have q := own_or1 q ((Cond.lt_ints ix (Term.int_eval _)).trans (by rw [decide_eq_false]; rw [Int32.lt_iff_toInt_lt, ej]; show ¬ (j : Int) < 60; omega))
                have q := own_or1 q ((Cond.le_ints (Term.int_eval _) ix).trans (by rw [decide_eq_false]; rw [Int32.le_iff_toInt_le, ej]; show ¬ (70 : Int) ≤ (j : Int); omega))
                rw [← el, show tT j = (54 : Int32) by rw [tT, show 48 + j / 10 = 54 by omega]; rfl]
                exact Cond.eq_int (beq_iff_eq.mpr q) rfl
              · by_cases g7 : j < 80
                · have q := own_el A eu h7 e3 hj
                  have q := own_or1 q ((Cond.lt_ints ix (Term.int_eval _)).trans (by rw [decide_eq_false]; rw [Int32.lt_iff_toInt_lt, ej]; show ¬ (j : Int) < 70; omega))
                  have q := own_or1 q ((Cond.le_ints (Term.int_eval _) ix).trans (by rw [decide_eq_false]; rw [Int32.le_iff_toInt_le, ej]; show ¬ (80 : Int) ≤ (j : Int); omega))
                  rw [← el, show tT j = (55 : Int32) by rw [tT, show 48 + j / 10 = 55 by omega]; rfl]
                  exact Cond.eq_int (beq_iff_eq.mpr q) rfl
                · by_cases g8 : j < 90
                  · have q := own_el A eu h8 e3 hj
                    have q := own_or1 q ((Cond.lt_ints ix (Term.int_eval _)).trans (by rw [decide_eq_false]; rw [Int32.lt_iff_toInt_lt, ej]; show ¬ (j : Int) < 80; omega))
                    have q := own_or1 q ((Cond.le_ints (Term.int_eval _) ix).trans (by rw [decide_eq_false]; rw [Int32.le_iff_toInt_le, ej]; show ¬ (90 : Int) ≤ (j : Int); omega))
                    rw [← el, show tT j = (56 : Int32) by rw [tT, show 48 + j / 10 = 56 by omega]; rfl]
                    exact Cond.eq_int (beq_iff_eq.mpr q) rfl
                  · have q := own_el A eu h9 e3 hj
                    have q := own_or1 q ((Cond.lt_ints ix (Term.int_eval _)).trans (by rw [decide_eq_false]; rw [Int32.lt_iff_toInt_lt, ej]; show ¬ (j : Int) < 90; omega))
                    rw [← el, show tT j = (57 : Int32) by rw [tT, show 48 + j / 10 = 57 by omega]; rfl]
                    exact Cond.eq_int (beq_iff_eq.mpr q) rfl
theorem own_olv {s : State} {args : Array Value} {u : Addr} {cl : Cell} (A : Arr s s.heap u cl .byte) (eu : ∀ idx, (Term.static "com/example/bittern/bittern/Digits" "ONES" "[B").eval args s none idx s = some (.ref u)) (e3 : cl.slots.size = 100) {j : Nat} (hj : j < 100)
    (h0 : ((Jvm.Cond.all (Jvm.Term.static "com/example/bittern/bittern/Digits" "ONES" "[B") (Jvm.Cond.or (Jvm.Cond.le (Jvm.Term.int (10 : Int32)) (Jvm.Term.index (0 : Nat))) (Jvm.Cond.eq (Jvm.Term.op1 Jvm.Unary.i2l (Jvm.Term.elem (Jvm.Term.static "com/example/bittern/bittern/Digits" "ONES" "[B") (Jvm.Term.index (0 : Nat)))) (Jvm.Term.op2 Jvm.Binary.ladd (Jvm.Term.op1 Jvm.Unary.i2l (Jvm.Term.index (0 : Nat))) (Jvm.Term.long (48 : Int64))))))).value args s none s [] = some true)
    (h1 : ((Jvm.Cond.all (Jvm.Term.static "com/example/bittern/bittern/Digits" "ONES" "[B") (Jvm.Cond.or (Jvm.Cond.lt (Jvm.Term.index (0 : Nat)) (Jvm.Term.int (10 : Int32))) (Jvm.Cond.or (Jvm.Cond.le (Jvm.Term.int (20 : Int32)) (Jvm.Term.index (0 : Nat))) (Jvm.Cond.eq (Jvm.Term.op1 Jvm.Unary.i2l (Jvm.Term.elem (Jvm.Term.static "com/example/bittern/bittern/Digits" "ONES" "[B") (Jvm.Term.index (0 : Nat)))) (Jvm.Term.op2 Jvm.Binary.ladd (Jvm.Term.op1 Jvm.Unary.i2l (Jvm.Term.index (0 : Nat))) (Jvm.Term.long (38 : Int64)))))))).value args s none s [] = some true)
    (h2 : ((Jvm.Cond.all (Jvm.Term.static "com/example/bittern/bittern/Digits" "ONES" "[B") (Jvm.Cond.or (Jvm.Cond.lt (Jvm.Term.index (0 : Nat)) (Jvm.Term.int (20 : Int32))) (Jvm.Cond.or (Jvm.Cond.le (Jvm.Term.int (30 : Int32)) (Jvm.Term.index (0 : Nat))) (Jvm.Cond.eq (Jvm.Term.op1 Jvm.Unary.i2l (Jvm.Term.elem (Jvm.Term.static "com/example/bittern/bittern/Digits" "ONES" "[B") (Jvm.Term.index (0 : Nat)))) (Jvm.Term.op2 Jvm.Binary.ladd (Jvm.Term.op1 Jvm.Unary.i2l (Jvm.Term.index (0 : Nat))) (Jvm.Term.long (28 : Int64)))))))).value args s none s [] = some true)
    (h3 : ((Jvm.Cond.all (Jvm.Term.static "com/example/bittern/bittern/Digits" "ONES" "[B") (Jvm.Cond.or (Jvm.Cond.lt (Jvm.Term.index (0 : Nat)) (Jvm.Term.int (30 : Int32))) (Jvm.Cond.or (Jvm.Cond.le (Jvm.Term.int (40 : Int32)) (Jvm.Term.index (0 : Nat))) (Jvm.Cond.eq (Jvm.Term.op1 Jvm.Unary.i2l (Jvm.Term.elem (Jvm.Term.static "com/example/bittern/bittern/Digits" "ONES" "[B") (Jvm.Term.index (0 : Nat)))) (Jvm.Term.op2 Jvm.Binary.ladd (Jvm.Term.op1 Jvm.Unary.i2l (Jvm.Term.index (0 : Nat))) (Jvm.Term.long (18 : Int64)))))))).value args s none s [] = some true)
    (h4 : ((Jvm.Cond.all (Jvm.Term.static "com/example/bittern/bittern/Digits" "ONES" "[B") (Jvm.Cond.or (Jvm.Cond.lt (Jvm.Term.index (0 : Nat)) (Jvm.Term.int (40 : Int32))) (Jvm.Cond.or (Jvm.Cond.le (Jvm.Term.int (50 : Int32)) (Jvm.Term.index (0 : Nat))) (Jvm.Cond.eq (Jvm.Term.op1 Jvm.Unary.i2l (Jvm.Term.elem (Jvm.Term.static "com/example/bittern/bittern/Digits" "ONES" "[B") (Jvm.Term.index (0 : Nat)))) (Jvm.Term.op2 Jvm.Binary.ladd (Jvm.Term.op1 Jvm.Unary.i2l (Jvm.Term.index (0 : Nat))) (Jvm.Term.long (8 : Int64)))))))).value args s none s [] = some true)
    (h5 : ((Jvm.Cond.all (Jvm.Term.static "com/example/bittern/bittern/Digits" "ONES" "[B") (Jvm.Cond.or (Jvm.Cond.lt (Jvm.Term.index (0 : Nat)) (Jvm.Term.int (50 : Int32))) (Jvm.Cond.or (Jvm.Cond.le (Jvm.Term.int (60 : Int32)) (Jvm.Term.index (0 : Nat))) (Jvm.Cond.eq (Jvm.Term.elem (Jvm.Term.static "com/example/bittern/bittern/Digits" "ONES" "[B") (Jvm.Term.index (0 : Nat))) (Jvm.Term.sub (Jvm.Term.index (0 : Nat)) (Jvm.Term.int (2 : Int32)))))))).value args s none s [] = some true)
    (h6 : ((Jvm.Cond.all (Jvm.Term.static "com/example/bittern/bittern/Digits" "ONES" "[B") (Jvm.Cond.or (Jvm.Cond.lt (Jvm.Term.index (0 : Nat)) (Jvm.Term.int (60 : Int32))) (Jvm.Cond.or (Jvm.Cond.le (Jvm.Term.int (70 : Int32)) (Jvm.Term.index (0 : Nat))) (Jvm.Cond.eq (Jvm.Term.elem (Jvm.Term.static "com/example/bittern/bittern/Digits" "ONES" "[B") (Jvm.Term.index (0 : Nat))) (Jvm.Term.sub (Jvm.Term.index (0 : Nat)) (Jvm.Term.int (12 : Int32)))))))).value args s none s [] = some true)
    (h7 : ((Jvm.Cond.all (Jvm.Term.static "com/example/bittern/bittern/Digits" "ONES" "[B") (Jvm.Cond.or (Jvm.Cond.lt (Jvm.Term.index (0 : Nat)) (Jvm.Term.int (70 : Int32))) (Jvm.Cond.or (Jvm.Cond.le (Jvm.Term.int (80 : Int32)) (Jvm.Term.index (0 : Nat))) (Jvm.Cond.eq (Jvm.Term.elem (Jvm.Term.static "com/example/bittern/bittern/Digits" "ONES" "[B") (Jvm.Term.index (0 : Nat))) (Jvm.Term.sub (Jvm.Term.index (0 : Nat)) (Jvm.Term.int (22 : Int32)))))))).value args s none s [] = some true)
    (h8 : ((Jvm.Cond.all (Jvm.Term.static "com/example/bittern/bittern/Digits" "ONES" "[B") (Jvm.Cond.or (Jvm.Cond.lt (Jvm.Term.index (0 : Nat)) (Jvm.Term.int (80 : Int32))) (Jvm.Cond.or (Jvm.Cond.le (Jvm.Term.int (90 : Int32)) (Jvm.Term.index (0 : Nat))) (Jvm.Cond.eq (Jvm.Term.elem (Jvm.Term.static "com/example/bittern/bittern/Digits" "ONES" "[B") (Jvm.Term.index (0 : Nat))) (Jvm.Term.sub (Jvm.Term.index (0 : Nat)) (Jvm.Term.int (32 : Int32)))))))).value args s none s [] = some true)
    (h9 : ((Jvm.Cond.all (Jvm.Term.static "com/example/bittern/bittern/Digits" "ONES" "[B") (Jvm.Cond.or (Jvm.Cond.lt (Jvm.Term.index (0 : Nat)) (Jvm.Term.int (90 : Int32))) (Jvm.Cond.eq (Jvm.Term.elem (Jvm.Term.static "com/example/bittern/bittern/Digits" "ONES" "[B") (Jvm.Term.index (0 : Nat))) (Jvm.Term.sub (Jvm.Term.index (0 : Nat)) (Jvm.Term.int (42 : Int32))))))).value args s none s [] = some true) :
    cl.slots[j]? = some (.int (OL.getD j 0)) := by
  have ej : (Int32.ofNat j).toInt = j := Int32.toInt_ofNat_small (by omega)
  have ix := own_ix2 (s := s) (args := args) hj
  have el := own_elem A eu hj
  rw [own_OL j hj]
  by_cases g0 : j < 10
  · have q := own_el A eu h0 e3 hj
    have q := own_or1 q ((Cond.le_ints (Term.int_eval _) ix).trans (by rw [decide_eq_false]; rw [Int32.le_iff_toInt_le, ej]; show ¬ (10 : Int) ≤ (j : Int); omega))
    exact own_long A el ix hj q (by rw [tO, Int32.toInt_ofNat_small (by omega)]; show ((48 + j % 10 : Nat) : Int) = j + 48; omega)
  · by_cases g1 : j < 20
    · have q := own_el A eu h1 e3 hj
      have q := own_or1 q ((Cond.lt_ints ix (Term.int_eval _)).trans (by rw [decide_eq_false]; rw [Int32.lt_iff_toInt_lt, ej]; show ¬ (j : Int) < 10; omega))
      have q := own_or1 q ((Cond.le_ints (Term.int_eval _) ix).trans (by rw [decide_eq_false]; rw [Int32.le_iff_toInt_le, ej]; show ¬ (20 : Int) ≤ (j : Int); omega))
      exact own_long A el ix hj q (by rw [tO, Int32.toInt_ofNat_small (by omega)]; show ((48 + j % 10 : Nat) : Int) = j + 38; omega)
    · by_cases g2 : j < 30
      · have q := own_el A eu h2 e3 hj
        have q := own_or1 q ((Cond.lt_ints ix (Term.int_eval _)).trans (by rw [decide_eq_false]; rw [Int32.lt_iff_toInt_lt, ej]; show ¬ (j : Int) < 20; omega))
        have q := own_or1 q ((Cond.le_ints (Term.int_eval _) ix).trans (by rw [decide_eq_false]; rw [Int32.le_iff_toInt_le, ej]; show ¬ (30 : Int) ≤ (j : Int); omega))
        exact own_long A el ix hj q (by rw [tO, Int32.toInt_ofNat_small (by omega)]; show ((48 + j % 10 : Nat) : Int) = j + 28; omega)
      · by_cases g3 : j < 40
        · have q := own_el A eu h3 e3 hj
          have q := own_or1 q ((Cond.lt_ints ix (Term.int_eval _)).trans (by rw [decide_eq_false]; rw [Int32.lt_iff_toInt_lt, ej]; show ¬ (j : Int) < 30; omega))
          have q := own_or1 q ((Cond.le_ints (Term.int_eval _) ix).trans (by rw [decide_eq_false]; rw [Int32.le_iff_toInt_le, ej]; show ¬ (40 : Int) ≤ (j : Int); omega))
          exact own_long A el ix hj q (by rw [tO, Int32.toInt_ofNat_small (by omega)]; show ((48 + j % 10 : Nat) : Int) = j + 18; omega)
        · by_cases g4 : j < 50
          · have q := own_el A eu h4 e3 hj
            have q := own_or1 q ((Cond.lt_ints ix (Term.int_eval _)).trans (by rw [decide_eq_false]; rw [Int32.lt_iff_toInt_lt, ej]; show ¬ (j : Int) < 40; omega))
            have q := own_or1 q ((Cond.le_ints (Term.int_eval _) ix).trans (by rw [decide_eq_false]; rw [Int32.le_iff_toInt_le, ej]; show ¬ (50 : Int) ≤ (j : Int); omega))
            exact own_long A el ix hj q (by rw [tO, Int32.toInt_ofNat_small (by omega)]; show ((48 + j % 10 : Nat) : Int) = j + 8; omega)
          · by_cases g5 : j < 60
            · have q := own_el A eu h5 e3 hj
              have q := own_or1 q ((Cond.lt_ints ix (Term.int_eval _)).trans (by rw [decide_eq_false]; rw [Int32.lt_iff_toInt_lt, ej]; show ¬ (j : Int) < 50; omega))
              have q := own_or1 q ((Cond.le_ints (Term.int_eval _) ix).trans (by rw [decide_eq_false]; rw [Int32.le_iff_toInt_le, ej]; show ¬ (60 : Int) ≤ (j : Int); omega))
              have w : (Term.sub (Term.index 0) (Term.int (2 : Int32))).eval args s none [j] s = some (.int (Int32.ofNat j - 2)) := by simp [Term.eval, ix]
              rw [← el, show tO j = Int32.ofNat j - 2 by apply Int32.toInt_inj.mp; have a := c_isub (Int32.ofNat j) 2; have r := rng32 (Int32.ofNat j - 2); have o : (2 : Int32).toInt = 2 := rfl; rw [tO, Int32.toInt_ofNat_small (by omega)]; omega]
              exact Cond.eq_int (beq_iff_eq.mpr q) w
            · by_cases g6 : j < 70
              · have q := own_el A eu h6 e3 hj
                have q := own_or1 q ((Cond.lt_ints ix (Term.int_eval _)).trans (by rw [decide_eq_false]; rw [Int32.lt_iff_toInt_lt, ej]; show ¬ (j : Int) < 60; omega))
                have q := own_or1 q ((Cond.le_ints (Term.int_eval _) ix).trans (by rw [decide_eq_false]; rw [Int32.le_iff_toInt_le, ej]; show ¬ (70 : Int) ≤ (j : Int); omega))
                have w : (Term.sub (Term.index 0) (Term.int (12 : Int32))).eval args s none [j] s = some (.int (Int32.ofNat j - 12)) := by simp [Term.eval, ix]
                rw [← el, show tO j = Int32.ofNat j - 12 by apply Int32.toInt_inj.mp; have a := c_isub (Int32.ofNat j) 12; have r := rng32 (Int32.ofNat j - 12); have o : (12 : Int32).toInt = 12 := rfl; rw [tO, Int32.toInt_ofNat_small (by omega)]; omega]
                exact Cond.eq_int (beq_iff_eq.mpr q) w
              · by_cases g7 : j < 80
                · have q := own_el A eu h7 e3 hj
                  have q := own_or1 q ((Cond.lt_ints ix (Term.int_eval _)).trans (by rw [decide_eq_false]; rw [Int32.lt_iff_toInt_lt, ej]; show ¬ (j : Int) < 70; omega))
                  have q := own_or1 q ((Cond.le_ints (Term.int_eval _) ix).trans (by rw [decide_eq_false]; rw [Int32.le_iff_toInt_le, ej]; show ¬ (80 : Int) ≤ (j : Int); omega))
                  have w : (Term.sub (Term.index 0) (Term.int (22 : Int32))).eval args s none [j] s = some (.int (Int32.ofNat j - 22)) := by simp [Term.eval, ix]
                  rw [← el, show tO j = Int32.ofNat j - 22 by apply Int32.toInt_inj.mp; have a := c_isub (Int32.ofNat j) 22; have r := rng32 (Int32.ofNat j - 22); have o : (22 : Int32).toInt = 22 := rfl; rw [tO, Int32.toInt_ofNat_small (by omega)]; omega]
                  exact Cond.eq_int (beq_iff_eq.mpr q) w
                · by_cases g8 : j < 90
                  · have q := own_el A eu h8 e3 hj
                    have q := own_or1 q ((Cond.lt_ints ix (Term.int_eval _)).trans (by rw [decide_eq_false]; rw [Int32.lt_iff_toInt_lt, ej]; show ¬ (j : Int) < 80; omega))
                    have q := own_or1 q ((Cond.le_ints (Term.int_eval _) ix).trans (by rw [decide_eq_false]; rw [Int32.le_iff_toInt_le, ej]; show ¬ (90 : Int) ≤ (j : Int); omega))
                    have w : (Term.sub (Term.index 0) (Term.int (32 : Int32))).eval args s none [j] s = some (.int (Int32.ofNat j - 32)) := by simp [Term.eval, ix]
                    rw [← el, show tO j = Int32.ofNat j - 32 by apply Int32.toInt_inj.mp; have a := c_isub (Int32.ofNat j) 32; have r := rng32 (Int32.ofNat j - 32); have o : (32 : Int32).toInt = 32 := rfl; rw [tO, Int32.toInt_ofNat_small (by omega)]; omega]
                    exact Cond.eq_int (beq_iff_eq.mpr q) w
                  · have q := own_el A eu h9 e3 hj
                    have q := own_or1 q ((Cond.lt_ints ix (Term.int_eval _)).trans (by rw [decide_eq_false]; rw [Int32.lt_iff_toInt_lt, ej]; show ¬ (j : Int) < 90; omega))
                    have w : (Term.sub (Term.index 0) (Term.int (42 : Int32))).eval args s none [j] s = some (.int (Int32.ofNat j - 42)) := by simp [Term.eval, ix]
                    rw [← el, show tO j = Int32.ofNat j - 42 by apply Int32.toInt_inj.mp; have a := c_isub (Int32.ofNat j) 42; have r := rng32 (Int32.ofNat j - 42); have o : (42 : Int32).toInt = 42 := rfl; rw [tO, Int32.toInt_ofNat_small (by omega)]; omega]
                    exact Cond.eq_int (beq_iff_eq.mpr q) w
set_option maxRecDepth 65536 in
set_option maxHeartbeats 40000000 in
theorem comes_1 {Post : Tables → Env → Array Value → State → Outcome → State → Prop} (hpost : ∀ tb e args s v u, (limb_1_1.after args s (.returned v) u = true ∧ limb_1_2.after args s (.returned v) u = true ∧ True) → FrameEnd s (.returned v) u (Jvm.fieldLocs frame_1_writes args s ++ Jvm.arrayLocs frame_1_arrays args s ++ Jvm.staticLocs frame_1_statics s) 16 128 → Post tb e args s (.returned v) u) :
    ArmFor flags0 classFile x code maxLocals ret World_1 tables_1 room_1 Calls_1 rest_1 Pre_1 Post := by
  intro l hfl _ _ p e ha hc hk s m args below hf hA hF happ hP
  obtain ⟨hcalls, hrest, hpre⟩ := hP
  obtain ⟨-, -, -, hnamed, -, -, -, hat⟩ := (Spec.applies_iff hf).mp happ
  obtain ⟨hg, hn⟩ := and_e (Cond.before_iff.mp (show (Jvm.Cond.and given_1 narrow_1).before args s = true from hpre))
  obtain ⟨g1, g2⟩ := and_e hg
  obtain ⟨g3, g4⟩ := and_e g2
  obtain ⟨g5, g6⟩ := and_e g4
  obtain ⟨g7, g8⟩ := and_e g6
  obtain ⟨w0, w1, w2, w3, rfl⟩ : ∃ w0 w1 w2 w3 : Value, args = #[w0, w1, w2, w3] := by
    have hs : args.size = 4 := by simpa [Cond.value, given_1] using g1
    obtain ⟨L⟩ := args
    match L, hs with
    | [w0, w1, w2, w3], _ => exact ⟨w0, w1, w2, w3, rfl⟩
  have hw := fun d (hd : d ∈ tables_1) => atoms_spec (ws := Jvm.Cond.code x code maxLocals ret :: tables_1) hat d (List.mem_cons_of_mem _ hd)
  have hfit : Fit s := fun {y c} hc i hi => by
    obtain ⟨ha, rfl⟩ := Array.getElem?_eq_some_iff.mp hc
    have q := List.all_eq_true.mp ((Array.all_eq_true_iff_forall_mem.mp hF) _ (Array.getElem_mem ha)) i (List.mem_range.mpr hi)
    simpa [Array.getElem?_eq_getElem hi] using q
  obtain ⟨i0, ei0⟩ := is_v g3
  obtain rfl : w0 = (.int i0) := Option.some.inj ei0
  obtain ⟨i1, ei1⟩ := is_v g5
  obtain rfl : w1 = (.int i1) := Option.some.inj ei1
  obtain ⟨i2, ei2⟩ := is_v g7
  obtain rfl : w2 = (.int i2) := Option.some.inj ei2
  obtain ⟨i3, ei3⟩ := is_v g8
  obtain rfl : w3 = (.int i3) := Option.some.inj ei3
  obtain ⟨m1, r1⟩ := and_e hn
  obtain ⟨m2, r2⟩ := and_e r1
  obtain ⟨m3, r3⟩ := and_e r2
  obtain ⟨m4, r4⟩ := and_e r3
  obtain ⟨m5, r5⟩ := and_e r4
  obtain ⟨m6, r6⟩ := and_e r5
  obtain ⟨m7, r7⟩ := and_e r6
  obtain ⟨m8, r8⟩ := and_e r7
  obtain ⟨m9, r9⟩ := and_e r8
  obtain ⟨m10, r10⟩ := and_e r9
  obtain ⟨m11, r11⟩ := and_e r10
  obtain ⟨m12, r12⟩ := and_e r11
  obtain ⟨m13, r13⟩ := and_e r12
  obtain ⟨m14, r14⟩ := and_e r13
  obtain ⟨m15, r15⟩ := and_e r14
  obtain ⟨m16, r16⟩ := and_e r15
  obtain ⟨m17, r17⟩ := and_e r16
  obtain ⟨m18, r18⟩ := and_e r17
  obtain ⟨m19, r19⟩ := and_e r18
  obtain ⟨m20, r20⟩ := and_e r19
  obtain ⟨m21, r21⟩ := and_e r20
  obtain ⟨m22, r22⟩ := and_e r21
  obtain ⟨m23, r23⟩ := and_e r22
  obtain ⟨ut, eut⟩ := arr_v m1
  have St := Sta.start eut (Or.inr ⟨(hw _ (List.mem_of_getElem? (i := 10) rfl)), (hw _ (List.mem_of_getElem? (i := 13) rfl))⟩)
  obtain ⟨clt, At⟩ := Arr.start eut m1
  have Vt : Arv s s.heap ut clt.cls .byte (100 : Int32) (TL.map Value.int) (.int (0 : Int32)) := own_arr hfit At eut m2 (by decide +kernel) (fun j hj e3 => own_tlv At (fun _ => eut) e3 hj m5 m6 m7 m8 m9 m10 m11 m12 m13 m14)
  obtain ⟨uo, euo⟩ := arr_v m3
  have So := Sta.start euo (Or.inr ⟨(hw _ (List.mem_of_getElem? (i := 10) rfl)), (hw _ (List.mem_of_getElem? (i := 15) rfl))⟩)
  obtain ⟨clo, Ao⟩ := Arr.start euo m3
  have Vo : Arv s s.heap uo clo.cls .byte (100 : Int32) (OL.map Value.int) (.int (0 : Int32)) := own_arr hfit Ao euo m4 (by decide +kernel) (fun j hj e3 => own_olv Ao (fun _ => euo) e3 hj m15 m16 m17 m18 m19 m20 m21 m22 m23 r23)
  obtain ⟨n, o, h1, h2, h3, _, L, rfl, ⟨rfl, N⟩, hq⟩ := rm0 l s _ hw tables_1 i0 i1 i2 i3 ut clt.cls uo clo.cls s.heap s.heap.size (Nat.le_refl _) St Vt So Vo p e ha hc hk s m _ below hf ((Spec.applies_iff_loose hf).mp happ).1 ⟨rfl, State.Warmed39.refl s, rfl⟩ trivial
  refine ⟨n, _, h1, h2, h3, hpost _ _ _ _ _ _ ⟨Cond.after_iff.mpr rfl, Cond.after_iff.mpr (eq_i res_at (Term.int_eval (1)) rfl), trivial⟩ ⟨hq.1, hq.2.1, (hq.2.2.sift fun y hy => Or.inr (N y hy)).mono (by decide) (by decide)⟩⟩
theorem main_1_1 : Claimed_1_1 := comes_1 fun _ _ _ _ _ _ h hF => ⟨h.1, hF⟩
theorem main_1_2 : Claimed_1_2 := comes_1 fun _ _ _ _ _ _ h hF => ⟨h.2.1, hF⟩
end Jvm.Pilot.@@N@@
namespace Jvm.Pilot.@@N@@
open Jvm Jvm.ClassFile Sem Op Lib Jvm.Free Jvm.Stand Jvm.Pilot.@@N@@.Jvm.D
/-! MADE BY PROGRAM (witnessworld.py) out of the Statement's table words and the real class files: 9 classes; the members and pool entries that the words name. The judged class is class 1, her method 1. -/
namespace start1
open Jvm.ClassFile
def u (s : String) : CpInfo := .utf8 (stringToUtf16 s)
/-- a pool by its gaps: so many unusable entries, then the entry; so many at the end -/
def gap : Nat → List CpInfo → List CpInfo
  | 0, r => r
  | n + 1, r => .unusable :: gap n r
def poolList (es : List (Nat × CpInfo)) (last : Nat) : List CpInfo := es.foldr (fun e r => gap e.1 (e.2 :: r)) (gap last [])
def pool (es : List (Nat × CpInfo)) (last : Nat) : Array CpInfo := ⟨poolList es last⟩
def fileOf (pool : Array CpInfo) (this : Nat) (attrs : Array Attribute := #[]) (ms : Array MethodInfo := #[]) (fl : Nat := 33) (sup : Nat := 0) (ifs : Array Nat := #[]) (fds : Array FieldInfo := #[]) : ClassFile where
  minorVersion := 0
  majorVersion := 65
  constantPool := pool
  accessFlags := fl
  thisClass := this
  superClass := sup
  interfaces := ifs
  fields := fds
  methods := ms
  attributes := attrs
def plain (name : String) (sup : Option ClassId) : Class where
  name := name
  kind := .ordinary
  loader := none
  accessFlags := 33
  super := sup
  interfaces := #[]
  cf := none
  fields := #[]
  methods := #[]
  instanceTypes := #[]
  staticTypes := #[]
  resolved := #[]
  callSites := []
  init := .initialized
  statics := none
  mirror := none

def pool0 : Array CpInfo := pool [(5, u "<init>"), (0, u "()V"), (1, .class_ 10), (1, u "java/lang/Object")] 113

def k0m0 : Method := { name := "<init>", desc := "()V", sig := { parameters := [], returnType := none }, accessFlags := 1, code := none }
/-- java/lang/Object -/
def k0 : Class := { plain "java/lang/Object" none with
  accessFlags := 33
  interfaces := #[]
  cf := some (fileOf pool0 8 #[] #[{ accessFlags := 1, nameIndex := 5, descriptorIndex := 6, attributes := #[] }] 33 0 #[] #[])
  fields := #[]
  methods := #[k0m0]
  instanceTypes := #[]
  staticTypes := #[]
  resolved := Array.replicate 124 none
  statics := none }

def pool1 : Array CpInfo := pool [(2, .class_ 4), (1, u "java/lang/Object"), (0, u "<init>"), (0, u "()V"), (0, .integer 2147483647), (0, .integer 100000), (0, .integer 1000000), (0, .integer 10000000), (0, .integer 100000000), (0, .integer 1000000000), (0, .methodref 14 15), (0, .class_ 16), (0, .nameAndType 17 18), (0, u "com/example/bittern/bittern/Digits"), (0, u "put"), (0, u "([BIII)I"), (0, .methodref 20 21), (0, .class_ 22), (0, .nameAndType 23 24), (0, u "com/example/bittern/bittern/DigitsPutPinLaw"), (0, u "at"), (0, u "([BIIIIB[I)Z"), (2, u "law"), (0, u "(IIII)Z")] 7

def k1m0 : Method := { name := "<init>", desc := "()V", sig := { parameters := [], returnType := none }, accessFlags := 2, code := none }
def k1c1 : Code := { maxStack := 7, maxLocals := 12, code := code, exceptionTable := #[], attributes := #[] }
def k1m1 : Method := { name := "law", desc := "(IIII)Z", sig := { parameters := [.int, .int, .int, .int], returnType := some .boolean }, accessFlags := 9, code := some k1c1 }
def k1c2 : Code := { maxStack := 3, maxLocals := 9, code := method_3_code, exceptionTable := #[], attributes := #[] }
def k1m2 : Method := { name := "at", desc := "([BIIIIB[I)Z", sig := { parameters := [(.array .byte), .int, .int, .int, .int, .byte, (.array .int)], returnType := some .boolean }, accessFlags := 10, code := some k1c2 }
/-- com/example/bittern/bittern/DigitsPutPinLaw -/
def k1 : Class := { plain "com/example/bittern/bittern/DigitsPutPinLaw" (some 0) with
  accessFlags := 49
  interfaces := #[]
  cf := some (fileOf pool1 20 #[] #[{ accessFlags := 2, nameIndex := 5, descriptorIndex := 6, attributes := #[] }, { accessFlags := 9, nameIndex := 27, descriptorIndex := 28, attributes := #[] }, { accessFlags := 10, nameIndex := 23, descriptorIndex := 24, attributes := #[] }] 49 2 #[] #[])
  fields := #[]
  methods := #[k1m0, k1m1, k1m2]
  instanceTypes := #[]
  staticTypes := #[]
  resolved := Array.replicate 36 none
  statics := none }

def pool2 : Array CpInfo := pool [(1, .class_ 2), (0, u "com/example/bittern/bittern/Digits"), (1, .class_ 6), (1, u "java/lang/Object"), (0, u "<init>"), (0, u "()V"), (30, .fieldref 1 40), (0, .nameAndType 41 42), (0, u "TENS"), (0, u "[B"), (0, .fieldref 1 44), (0, .nameAndType 45 42), (0, u "ONES"), (27, u "LONG_OCTETS"), (0, u "Ljava/lang/invoke/VarHandle;"), (8, u "INT_OCTETS"), (5, u "SHORT_OCTETS"), (46, u "RADIX"), (0, u "I"), (2, u "PAIR_RADIX"), (1, u "EVERY_OCTET"), (0, u "J"), (2, u "ZEROS"), (0, u "HIGH_NIBBLES"), (0, u "LOW_NIBBLES"), (0, u "SIXES"), (0, u "EVERY_OTHER_OCTET"), (0, u "TENS_MULTIPLIER"), (0, u "TENS_SHIFT"), (0, u "PAIR_NIBBLES"), (0, u "ASCII_LIMIT"), (1, u "SHORT_WORD"), (11, u "put"), (0, u "([BIII)I")] 34

def k2m0 : Method := { name := "<init>", desc := "()V", sig := { parameters := [], returnType := none }, accessFlags := 2, code := none }
def k2c1 : Code := { maxStack := 4, maxLocals := 8, code := prog_5_method_8_code, exceptionTable := #[], attributes := #[] }
def k2m1 : Method := { name := "put", desc := "([BIII)I", sig := { parameters := [(.array .byte), .int, .int, .int], returnType := some .int }, accessFlags := 8, code := some k2c1 }
/-- com/example/bittern/bittern/Digits -/
def k2 : Class := { plain "com/example/bittern/bittern/Digits" (some 0) with
  accessFlags := 48
  interfaces := #[]
  cf := some (fileOf pool2 1 #[] #[{ accessFlags := 2, nameIndex := 7, descriptorIndex := 8, attributes := #[] }, { accessFlags := 8, nameIndex := 168, descriptorIndex := 169, attributes := #[] }] 48 4 #[] #[{ accessFlags := 26, nameIndex := 136, descriptorIndex := 137, attributes := #[] }, { accessFlags := 24, nameIndex := 140, descriptorIndex := 137, attributes := #[] }, { accessFlags := 26, nameIndex := 41, descriptorIndex := 42, attributes := #[] }, { accessFlags := 26, nameIndex := 45, descriptorIndex := 42, attributes := #[] }, { accessFlags := 26, nameIndex := 142, descriptorIndex := 143, attributes := #[] }, { accessFlags := 26, nameIndex := 146, descriptorIndex := 143, attributes := #[] }, { accessFlags := 26, nameIndex := 147, descriptorIndex := 143, attributes := #[] }, { accessFlags := 26, nameIndex := 148, descriptorIndex := 143, attributes := #[] }, { accessFlags := 26, nameIndex := 149, descriptorIndex := 143, attributes := #[] }, { accessFlags := 26, nameIndex := 150, descriptorIndex := 143, attributes := #[] }, { accessFlags := 26, nameIndex := 151, descriptorIndex := 143, attributes := #[] }, { accessFlags := 26, nameIndex := 152, descriptorIndex := 137, attributes := #[] }, { accessFlags := 26, nameIndex := 153, descriptorIndex := 143, attributes := #[] }, { accessFlags := 26, nameIndex := 154, descriptorIndex := 137, attributes := #[] }, { accessFlags := 26, nameIndex := 156, descriptorIndex := 137, attributes := #[] }, { accessFlags := 26, nameIndex := 73, descriptorIndex := 74, attributes := #[] }, { accessFlags := 26, nameIndex := 83, descriptorIndex := 74, attributes := #[] }, { accessFlags := 26, nameIndex := 89, descriptorIndex := 74, attributes := #[] }])
  fields := #[{ name := "RADIX", type := .int, accessFlags := 26, slot := 0, constantValue := 0 }, { name := "PAIR_RADIX", type := .int, accessFlags := 24, slot := 1, constantValue := 0 }, { name := "TENS", type := (.array .byte), accessFlags := 26, slot := 2, constantValue := 0 }, { name := "ONES", type := (.array .byte), accessFlags := 26, slot := 3, constantValue := 0 }, { name := "EVERY_OCTET", type := .long, accessFlags := 26, slot := 4, constantValue := 0 }, { name := "ZEROS", type := .long, accessFlags := 26, slot := 5, constantValue := 0 }, { name := "HIGH_NIBBLES", type := .long, accessFlags := 26, slot := 6, constantValue := 0 }, { name := "LOW_NIBBLES", type := .long, accessFlags := 26, slot := 7, constantValue := 0 }, { name := "SIXES", type := .long, accessFlags := 26, slot := 8, constantValue := 0 }, { name := "EVERY_OTHER_OCTET", type := .long, accessFlags := 26, slot := 9, constantValue := 0 }, { name := "TENS_MULTIPLIER", type := .long, accessFlags := 26, slot := 10, constantValue := 0 }, { name := "TENS_SHIFT", type := .int, accessFlags := 26, slot := 11, constantValue := 0 }, { name := "PAIR_NIBBLES", type := .long, accessFlags := 26, slot := 12, constantValue := 0 }, { name := "ASCII_LIMIT", type := .int, accessFlags := 26, slot := 13, constantValue := 0 }, { name := "SHORT_WORD", type := .int, accessFlags := 26, slot := 14, constantValue := 0 }, { name := "LONG_OCTETS", type := (.object "java/lang/invoke/VarHandle"), accessFlags := 26, slot := 15, constantValue := 0 }, { name := "INT_OCTETS", type := (.object "java/lang/invoke/VarHandle"), accessFlags := 26, slot := 16, constantValue := 0 }, { name := "SHORT_OCTETS", type := (.object "java/lang/invoke/VarHandle"), accessFlags := 26, slot := 17, constantValue := 0 }]
  methods := #[k2m0, k2m1]
  instanceTypes := #[]
  staticTypes := #[.int, .int, (.array .byte), (.array .byte), .long, .long, .long, .long, .long, .long, .long, .int, .long, .int, .int, (.object "java/lang/invoke/VarHandle"), (.object "java/lang/invoke/VarHandle"), (.object "java/lang/invoke/VarHandle")]
  resolved := Array.replicate 204 none
  statics := some 0 }

def pool3 : Array CpInfo := pool [(1, u "java/lang/Cloneable"), (0, .class_ 1), (0, u "java/lang/Object"), (0, .class_ 3)] 3

/-- java/lang/Cloneable -/
def k3 : Class := { plain "java/lang/Cloneable" (some 0) with
  accessFlags := 1537
  interfaces := #[]
  cf := some (fileOf pool3 2 #[] #[] 1537 4 #[] #[])
  fields := #[]
  methods := #[]
  instanceTypes := #[]
  staticTypes := #[]
  resolved := Array.replicate 8 none
  statics := none }

def pool4 : Array CpInfo := pool [(1, u "java/io/Serializable"), (0, .class_ 1), (0, u "java/lang/Object"), (0, .class_ 3)] 3

/-- java/io/Serializable -/
def k4 : Class := { plain "java/io/Serializable" (some 0) with
  accessFlags := 1537
  interfaces := #[]
  cf := some (fileOf pool4 2 #[] #[] 1537 4 #[] #[])
  fields := #[]
  methods := #[]
  instanceTypes := #[]
  staticTypes := #[]
  resolved := Array.replicate 8 none
  statics := none }

/-- the primitive byte -/
def k5 : Class := { plain "byte" none with kind := .primitive 'B', accessFlags := 0x411 }
/-- [B -/
def k6 : Class := { plain "[B" (some 0) with kind := .array 5 .byte, interfaces := #[3, 4], accessFlags := 1041 }

/-- the primitive int -/
def k7 : Class := { plain "int" none with kind := .primitive 'I', accessFlags := 0x411 }
/-- [I -/
def k8 : Class := { plain "[I" (some 0) with kind := .array 7 .int, interfaces := #[3, 4], accessFlags := 1041 }

def heap : Heap := #[{ cls := 2, slots := #[.int 0, .int 0, .ref 1, .ref 2, .long 0, .long 0, .long 0, .long 0, .long 0, .long 0, .long 0, .int 0, .long 0, .int 0, .int 0, .null, .null, .null], vm := .statics 2 },
  { cls := 6, slots := #[.int 48, .int 48, .int 48, .int 48, .int 48, .int 48, .int 48, .int 48, .int 48, .int 48, .int 49, .int 49, .int 49, .int 49, .int 49, .int 49, .int 49, .int 49, .int 49, .int 49, .int 50, .int 50, .int 50, .int 50, .int 50, .int 50, .int 50, .int 50, .int 50, .int 50, .int 51, .int 51, .int 51, .int 51, .int 51, .int 51, .int 51, .int 51, .int 51, .int 51, .int 52, .int 52, .int 52, .int 52, .int 52, .int 52, .int 52, .int 52, .int 52, .int 52, .int 53, .int 53, .int 53, .int 53, .int 53, .int 53, .int 53, .int 53, .int 53, .int 53, .int 54, .int 54, .int 54, .int 54, .int 54, .int 54, .int 54, .int 54, .int 54, .int 54, .int 55, .int 55, .int 55, .int 55, .int 55, .int 55, .int 55, .int 55, .int 55, .int 55, .int 56, .int 56, .int 56, .int 56, .int 56, .int 56, .int 56, .int 56, .int 56, .int 56, .int 57, .int 57, .int 57, .int 57, .int 57, .int 57, .int 57, .int 57, .int 57, .int 57], vm := .none },
  { cls := 6, slots := #[.int 48, .int 49, .int 50, .int 51, .int 52, .int 53, .int 54, .int 55, .int 56, .int 57, .int 48, .int 49, .int 50, .int 51, .int 52, .int 53, .int 54, .int 55, .int 56, .int 57, .int 48, .int 49, .int 50, .int 51, .int 52, .int 53, .int 54, .int 55, .int 56, .int 57, .int 48, .int 49, .int 50, .int 51, .int 52, .int 53, .int 54, .int 55, .int 56, .int 57, .int 48, .int 49, .int 50, .int 51, .int 52, .int 53, .int 54, .int 55, .int 56, .int 57, .int 48, .int 49, .int 50, .int 51, .int 52, .int 53, .int 54, .int 55, .int 56, .int 57, .int 48, .int 49, .int 50, .int 51, .int 52, .int 53, .int 54, .int 55, .int 56, .int 57, .int 48, .int 49, .int 50, .int 51, .int 52, .int 53, .int 54, .int 55, .int 56, .int 57, .int 48, .int 49, .int 50, .int 51, .int 52, .int 53, .int 54, .int 55, .int 56, .int 57, .int 48, .int 49, .int 50, .int 51, .int 52, .int 53, .int 54, .int 55, .int 56, .int 57], vm := .none }]
def classes : Array Class := #[k0, k1, k2, k3, k4, k5, k6, k7, k8]
def interned : List (Array UInt16 × Addr) := []
def slotsUsed : Nat := 218
def theMethod : MethodId := ⟨1, 1⟩
def args0 : Array Value := #[.int 5, .int 6, .int 7, .int 1]
def aboutOver (below : List Frame) : State where
  vm := { classes := classes, interned := interned.toArray }
  heap := heap
  slotsUsed := slotsUsed
  threads := #[{ frames := .invoking theMethod args0 :: below }]
def below0 : List Frame := [.native { method := ⟨0, 0⟩, args := #[] }]
def about1 : State := aboutOver below0
def p0 : Program := .bare "" "" ""
def e0 : Env := launch0.env 0 0 0
theorem w_frames : about1.frames = Frame.invoking theMethod args0 :: below0 := rfl
set_option maxRecDepth 65536 in
theorem w_args : argsFit about1.vm theMethod args0 = true := by decide +kernel
set_option maxRecDepth 65536 in
theorem w_heap : heapFits about1 = true := by decide +kernel
set_option maxRecDepth 65536 in
theorem w_runnable : about1.curStatus? = some .runnable := by decide +kernel
set_option maxRecDepth 65536 in
theorem w_alone : about1.alone = true := by decide +kernel
set_option maxRecDepth 65536 in
theorem w_named : about1.methodNamed? x = some theMethod := by decide +kernel
set_option maxRecDepth 65536 in
theorem w_hears : about1.hears theMethod below0 = true := by decide +kernel
set_option maxRecDepth 65536 in
theorem w_ripe : about1.ripe theMethod args0 below0 = true := by decide +kernel
theorem w_running : about1.status = .running := rfl
set_option maxRecDepth 65536 in
theorem w_room : about1.hasRoom e0.platform room_1 = true :=
  launch0.hasRoom_least _ room_1 (by decide +kernel) (by decide +kernel) (by decide +kernel) (by decide +kernel) (by decide +kernel) (by decide +kernel)
theorem allAtoms_all (ts : List Jvm.Cond) (a : Array Jvm.Value) (st : Jvm.State) : (allAtoms ts).before a st = ts.all (fun c => c.before a st) := by
  induction ts with
  | nil => rfl
  | cons c t ih =>
    show (Jvm.Cond.and c (allAtoms t)).before a st = _
    rw [Jvm.Cond.before_and, ih, List.all_cons]
def words1 : List Jvm.Cond := Jvm.Cond.code x code maxLocals ret :: tables_1
/-- a 'code' word, met by the world's own term for the bytes: nothing is compared byte by byte -/
theorem code_word {y : MethodName} {bytes : ByteArray} {mx : Nat} {rt : Option FieldType} {a : Array Value} {s : State} {m : MethodId} {meth : Method} {c : Code} (h1 : s.methodNamed? y = some m) (h2 : s.vm.method? m = some meth) (h3 : meth.code = some c) (h4 : c.code = bytes)
    (h5 : (c.maxLocals == mx && c.exceptionTable.isEmpty && decide (c.maxStack ≤ mostOperands) && decide (meth.sig.returnType = rt) && !meth.locks && decide (parseMethodDescriptor y.desc = some meth.sig)) = true) : (Jvm.Cond.code y bytes mx rt).before a s = true := by
  simp only [Bool.and_eq_true, beq_iff_eq, Bool.not_eq_true', decide_eq_true_eq] at h5
  obtain ⟨⟨⟨⟨⟨g1, g2⟩, g3⟩, g4⟩, g5⟩, g6⟩ := h5
  simp [Cond.before, Cond.holds, Cond.value, h1, h2, h3, h4, g1, g2, g3, g4, g5, g6]
def isCode : Jvm.Cond → Bool
  | .code _ _ _ _ => true
  | _ => false
theorem all_split {L : List Jvm.Cond} {P : Jvm.Cond → Bool} (h1 : L.all (fun c => isCode c || P c) = true) (h2 : ∀ c ∈ L.filter isCode, P c = true) : L.all P = true := by
  refine List.all_eq_true.mpr fun c hc => ?_
  have h := List.all_eq_true.mp h1 c hc
  rcases Bool.eq_false_or_eq_true (isCode c) with hi | hi
  · exact h2 c (List.mem_filter.mpr ⟨hc, hi⟩)
  · simpa [hi] using h
set_option maxRecDepth 65536 in
theorem w_c0 : (Jvm.Cond.code x code maxLocals ret).before args0 about1 = true := code_word (m := ⟨1, 1⟩) (meth := k1m1) (c := k1c1) (by decide +kernel) rfl rfl rfl (by decide +kernel)
set_option maxRecDepth 65536 in
theorem w_c1 : (Jvm.Cond.code ({ cls := "com/example/bittern/bittern/Digits", name := "put", desc := "([BIII)I" } : Jvm.MethodName) prog_5_method_8_code (8 : Nat) (Option.some Jvm.ClassFile.FieldType.int)).before args0 about1 = true := code_word (m := ⟨2, 1⟩) (meth := k2m1) (c := k2c1) (by decide +kernel) rfl rfl rfl (by decide +kernel)
set_option maxRecDepth 65536 in
theorem w_c2 : (Jvm.Cond.code ({ cls := "com/example/bittern/bittern/DigitsPutPinLaw", name := "at", desc := "([BIIIIB[I)Z" } : Jvm.MethodName) method_3_code (9 : Nat) (Option.some Jvm.ClassFile.FieldType.boolean)).before args0 about1 = true := code_word (m := ⟨1, 2⟩) (meth := k1m2) (c := k1c2) (by decide +kernel) rfl rfl rfl (by decide +kernel)
def codes1 : List Jvm.Cond := [Jvm.Cond.code x code maxLocals ret, Jvm.Cond.code ({ cls := "com/example/bittern/bittern/Digits", name := "put", desc := "([BIII)I" } : Jvm.MethodName) prog_5_method_8_code (8 : Nat) (Option.some Jvm.ClassFile.FieldType.int), Jvm.Cond.code ({ cls := "com/example/bittern/bittern/DigitsPutPinLaw", name := "at", desc := "([BIIIIB[I)Z" } : Jvm.MethodName) method_3_code (9 : Nat) (Option.some Jvm.ClassFile.FieldType.boolean)]
set_option maxRecDepth 65536 in
theorem codes_eq : words1.filter isCode = codes1 := rfl
theorem w_codes : ∀ c ∈ words1.filter isCode, c.before args0 about1 = true := by
  rw [codes_eq]
  intro c hc
  simp only [codes1, List.mem_cons, List.not_mem_nil, or_false] at hc
  rcases hc with rfl | rfl | rfl
  · exact w_c0
  · exact w_c1
  · exact w_c2
set_option maxRecDepth 65536 in
theorem w_t1 : words1.all (fun c => isCode c || c.before args0 about1) = true := by decide +kernel
theorem w_tables : (allAtoms (Jvm.Cond.code x code maxLocals ret :: tables_1)).before args0 about1 = true := by
  rw [allAtoms_all]
  show words1.all (fun c => c.before args0 about1) = true
  refine all_split ?_ w_codes
  rw [w_t1]
set_option maxRecDepth 65536 in
theorem w_case : (Jvm.Cond.and given_1 narrow_1).before args0 about1 = true := by decide +kernel
theorem w_applies : (headSpec (Jvm.Cond.code x code maxLocals ret :: tables_1) room_1).applies x e0.platform about1 = true :=
  (Spec.applies_iff w_frames).mpr ⟨w_running, w_runnable, w_alone, w_named, w_hears, w_ripe, w_room, w_tables⟩
theorem atStart : AtStart classFile x code maxLocals ret World_1 tables_1 room_1 Calls_1 rest_1 Pre_1 launch0 p0 e0 about1 theMethod args0 below0 :=
  ⟨lists_1, trivial, launch0.admits_env _ _ _, launch0.least_env, fairChoices_fair.cas, fairChoices_fair.clock, w_frames, w_args, w_heap, w_applies, trivial, trivial, w_case⟩
end start1
theorem witness_1 : WitnessClaimed_1 := ⟨start1.p0, start1.e0, start1.about1, start1.theMethod, start1.args0, start1.below0, start1.atStart⟩
end Jvm.Pilot.@@N@@
